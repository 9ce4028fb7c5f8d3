-- Laid by a program of this session, out of the translation's print.
import Derived.Test.YtgpmmmlmaaiobaaDoorPFnInputStreamx0
import Derived.Test.YtgpmmmlmaaiobaaDoorPFnInputStreamx3
import Derived.Test.YtgpmmmlmaaiobaaDoorPFnInputStreamx14
namespace Go.Proofs.YtgpmmmlmaaiobaaDoor.PFnInputStream
open Go.Proofs.YtgpmmmlmaaiobaaDoor.Own
open Go.RowKit Go.Proofs.YtgpmmmlmaaiobaaDoorW.PrintWords Go.Proofs.YtgpmmmlmaaiobaaDoorW.PrintLast Go.Proofs.YtgpmmmlmaaiobaaDoorW.PrintMore
attribute [local go_sem] max2_int min2_int max_two min_two max_three min_three max_four min_four   -- for this text's walks alone
set_option linter.unusedVariables false
set_option linter.unusedSimpArgs false

theorem bA_ {w : World} {g : Nat} {o : Obj} (h : w.heap[g]? = some o) (o' : Obj) : (w.alloc o').heap[g]? = some o := blk_alloc h o'
theorem bD_ {w : World} {g : Nat} {o : Obj} (h : w.heap[g]? = some o) : w.drew.heap[g]? = some o := h
theorem bN_ {w : World} {g : Nat} {o : Obj} (h : w.heap[g]? = some o) (n : Nat) : (w.drewN n).heap[g]? = some o := h
theorem cf_ {W : World} {p a : Addr} (h : a.block ≠ p.block) (u : Value) : (W.setCell p u).cell? a = W.cell? a := cell_far h u
set_option maxHeartbeats 8000000 in
set_option maxRecDepth 100000 in
theorem spec_Next.calls (k : Nat) (A0 : Option Addr) (c0 : Nat) (l0 : List Int) (a1_0 : Int) (a1_1 : Int) (a2_0 : Int) (a2_1 : Int) (r1 : Int) (r2 : Int) (r3 : Int) (r4 : Int) (r5 : ByteArray) (r6 : Bool) (w : World) (hr0 : Kd.C (Kd.int .u8) w A0 l0.length l0) (hc0 : l0.length ≤ c0) (h : spec_Next.f k l0 a1_0 a1_1 a2_0 a2_1 = some (r1, r2, r3, r4, r5, r6)) :
    Calls Tryd.prog 28 #[.slice A0 l0.length c0, .agg #[.int .i64 a1_0, .int .i64 a1_1], .agg #[.int .i64 a2_0, .int .i64 a2_1]] w fun e w' => e = .returned (.tuple #[.agg #[.int .i64 r1, .int .i64 r2], .agg #[.int .i64 r3, .int .i64 r4, .string r5], .bool r6]) ∧ Below w.heap.size w w' := by
  have hu64 := Tryd.underlying64
  have hu44 := Tryd.underlying44
  have hu46 := Tryd.underlying46
  have HR0 := Aside0.mk hr0
  have HC0 := Aside0.mk hc0
  clear hr0 hc0
  have HB := Aside0.mk (Below.refl w.heap.size w)
  have H : (if a2_1 ≥ (wrap64 (-(l0.length : Int))) then (if a2_1 ≤ (l0.length : Int) then (if (wrap64 (a1_1 + a2_1)) ≥ a1_0 then (spec_Next.j0 k l0 (wrap64 (a1_1 + a2_1)) (decide ((wrap64 (a1_1 + a2_1)) ≤ (l0.length : Int))) a1_0 a1_1 a2_0 a2_1 0 0 (⟨#[]⟩ : ByteArray)) else (spec_Next.j0 k l0 (wrap64 (a1_1 + a2_1)) false a1_0 a1_1 a2_0 a2_1 0 0 (⟨#[]⟩ : ByteArray))) else (spec_Next.j0 k l0 (wrap64 (a1_1 + a2_1)) false a1_0 a1_1 a2_0 a2_1 0 0 (⟨#[]⟩ : ByteArray))) else (spec_Next.j0 k l0 (wrap64 (a1_1 + a2_1)) false a1_0 a1_1 a2_0 a2_1 0 0 (⟨#[]⟩ : ByteArray))) = some (r1, r2, r3, r4, r5, r6) := h
  clear h
  have HC4 := Aside0.mk H
  clear H
  go_enter Tryd.func28, Tryd.ntmps28
  go_upto_region 3 with (first | ((with_reducible refine gate_dst (N := 4) rfl ?_); (try (refine gate_guard (by rfl) ?_; dsimp only)); refine box_event ?hg (N := 4) ?hd (cs := #[.int .i64 a1_0, .int .i64 a1_1]) (t := 64) ?hr ?_; (case hd => rfl); (case hg => rfl); (case hr => first | (go_simp; done) | (go_simp; rfl)); intro ga hg w5 hbox hb; have m0 := Aside0.mk (below_step (by repeat first | exact HB.out | apply below_alloc | apply pw_below_drewN | apply below_drew1) hb); have m1 := Aside0.mk (hbox); have m2 := Aside0.mk ((by rw [hg]; exact (below_size (by repeat first | exact HB.out | apply below_alloc | apply pw_below_drewN | apply below_drew1)) : w.heap.size ≤ ga)); have m3 := Aside0.mk ((by rw [hg]; exact (below_size (by repeat first | exact HB.out | apply below_alloc | apply pw_below_drewN | apply below_drew1)) : w.heap.size ≤ ga)); clear HB; have HB := m0; have Ba_ := m1; have GW112 := m2; have GE112 := m3; clear m0 m1 m2 m3; clear hb hbox hg) | ((with_reducible refine gate_dst (N := 5) rfl ?_); (try (refine gate_guard (by rfl) ?_; dsimp only)); refine box_event ?hg (N := 5) ?hd (cs := #[.int .i64 a2_0, .int .i64 a2_1]) (t := 44) ?hr ?_; (case hd => rfl); (case hg => rfl); (case hr => first | (go_simp; done) | (go_simp; rfl)); intro gb hg w6 hbox hb; have m0 := Aside0.mk (blk_below (g := ga) (o := .cells #[.int .i64 a1_0, .int .i64 a1_1] 64 (0, 0)) (by (with_reducible repeat first | refine bN_ ?_ _ | refine bD_ ?_ | refine bA_ ?_ _); exact Ba_.out) hb); have m1 := Aside0.mk (below_step (by repeat (first | (with_reducible first | exact HB.out | apply below_alloc | apply pw_below_drewN | apply below_drew1 | refine below_set ?_ GE112.out) | exact HB.out)) hb); have m2 := Aside0.mk (hbox); have m3 := Aside0.mk ((by rw [hg]; exact (below_size (by repeat (first | (with_reducible first | exact HB.out | apply below_alloc | apply pw_below_drewN | apply below_drew1 | refine below_set ?_ GE112.out) | exact HB.out))) : w.heap.size ≤ gb)); have m4 := Aside0.mk ((by rw [hg]; exact (below_size (by repeat (first | (with_reducible first | exact HB.out | apply below_alloc | apply pw_below_drewN | apply below_drew1 | refine below_set ?_ GE112.out) | exact HB.out))) : w.heap.size ≤ gb)); have m5 := Aside0.mk ((by rw [hg]; exact Nat.ne_of_lt (blk_lt (g := ga) (o := .cells #[.int .i64 a1_0, .int .i64 a1_1] 64 (0, 0)) (by (with_reducible repeat first | refine bN_ ?_ _ | refine bD_ ?_ | refine bA_ ?_ _); exact Ba_.out)) : ga ≠ gb)); have m6 := Aside0.mk ((by rw [hg]; exact Nat.ne_of_gt (blk_lt (g := ga) (o := .cells #[.int .i64 a1_0, .int .i64 a1_1] 64 (0, 0)) (by (with_reducible repeat first | refine bN_ ?_ _ | refine bD_ ?_ | refine bA_ ?_ _); exact Ba_.out)) : gb ≠ ga)); clear Ba_; clear HB; have Ba_ := m0; have HB := m1; have Bb_ := m2; have GW113 := m3; have GE113 := m4; have Nab := m5; have Nba := m6; clear m0 m1 m2 m3 m4 m5 m6; clear hb hbox hg) | ((with_reducible refine gate_dst (N := 6) rfl ?_); (try (refine gate_guard (by rfl) ?_; dsimp only)); refine box_event ?hg (N := 6) ?hd (cs := #[.int .i64 0, .int .i64 0]) (t := 64) ?hr ?_; (case hd => rfl); (case hg => rfl); (case hr => first | (go_simp; done) | (go_simp; rfl)); intro gc hg w7 hbox hb; have m0 := Aside0.mk (blk_below (g := ga) (o := .cells #[.int .i64 a1_0, .int .i64 a1_1] 64 (0, 0)) (by (with_reducible repeat first | refine bN_ ?_ _ | refine bD_ ?_ | refine bA_ ?_ _); exact Ba_.out) hb); have m1 := Aside0.mk (blk_below (g := gb) (o := .cells #[.int .i64 a2_0, .int .i64 a2_1] 44 (0, 0)) (by (with_reducible repeat first | refine bN_ ?_ _ | refine bD_ ?_ | refine bA_ ?_ _); exact Bb_.out) hb); have m2 := Aside0.mk (below_step (by repeat (first | (with_reducible first | exact HB.out | apply below_alloc | apply pw_below_drewN | apply below_drew1 | refine below_set ?_ GE112.out | refine below_set ?_ GE113.out) | exact HB.out)) hb); have m3 := Aside0.mk (hbox); have m4 := Aside0.mk ((by rw [hg]; exact (below_size (by repeat (first | (with_reducible first | exact HB.out | apply below_alloc | apply pw_below_drewN | apply below_drew1 | refine below_set ?_ GE112.out | refine below_set ?_ GE113.out) | exact HB.out))) : w.heap.size ≤ gc)); have m5 := Aside0.mk ((by rw [hg]; exact (below_size (by repeat (first | (with_reducible first | exact HB.out | apply below_alloc | apply pw_below_drewN | apply below_drew1 | refine below_set ?_ GE112.out | refine below_set ?_ GE113.out) | exact HB.out))) : w.heap.size ≤ gc)); have m6 := Aside0.mk ((by rw [hg]; exact Nat.ne_of_lt (blk_lt (g := ga) (o := .cells #[.int .i64 a1_0, .int .i64 a1_1] 64 (0, 0)) (by (with_reducible repeat first | refine bN_ ?_ _ | refine bD_ ?_ | refine bA_ ?_ _); exact Ba_.out)) : ga ≠ gc)); have m7 := Aside0.mk ((by rw [hg]; exact Nat.ne_of_gt (blk_lt (g := ga) (o := .cells #[.int .i64 a1_0, .int .i64 a1_1] 64 (0, 0)) (by (with_reducible repeat first | refine bN_ ?_ _ | refine bD_ ?_ | refine bA_ ?_ _); exact Ba_.out)) : gc ≠ ga)); have m8 := Aside0.mk ((by rw [hg]; exact Nat.ne_of_lt (blk_lt (g := gb) (o := .cells #[.int .i64 a2_0, .int .i64 a2_1] 44 (0, 0)) (by (with_reducible repeat first | refine bN_ ?_ _ | refine bD_ ?_ | refine bA_ ?_ _); exact Bb_.out)) : gb ≠ gc)); have n9_ := Aside0.mk ((by rw [hg]; exact Nat.ne_of_gt (blk_lt (g := gb) (o := .cells #[.int .i64 a2_0, .int .i64 a2_1] 44 (0, 0)) (by (with_reducible repeat first | refine bN_ ?_ _ | refine bD_ ?_ | refine bA_ ?_ _); exact Bb_.out)) : gc ≠ gb)); clear Ba_; clear Bb_; clear HB; have Ba_ := m0; have Bb_ := m1; have HB := m2; have Bc_ := m3; have GW114 := m4; have GE114 := m5; have Nac := m6; have Nca := m7; have Nbc := m8; have Ncb := n9_; clear m0 m1 m2 m3 m4 m5 m6 m7 m8 n9_; clear hb hbox hg) | ((with_reducible refine gate_dst (N := 7) rfl ?_); (try (refine gate_guard (by rfl) ?_; dsimp only)); refine box_event ?hg (N := 7) ?hd (cs := #[.int .i64 0, .int .i64 0, .string (⟨#[]⟩ : ByteArray)]) (t := 46) ?hr ?_; (case hd => rfl); (case hg => rfl); (case hr => first | (go_simp; done) | (go_simp; rfl)); intro gd hg w8 hbox hb; have m0 := Aside0.mk (blk_below (g := ga) (o := .cells #[.int .i64 a1_0, .int .i64 a1_1] 64 (0, 0)) (by (with_reducible repeat first | refine bN_ ?_ _ | refine bD_ ?_ | refine bA_ ?_ _); exact Ba_.out) hb); have m1 := Aside0.mk (blk_below (g := gb) (o := .cells #[.int .i64 a2_0, .int .i64 a2_1] 44 (0, 0)) (by (with_reducible repeat first | refine bN_ ?_ _ | refine bD_ ?_ | refine bA_ ?_ _); exact Bb_.out) hb); have m2 := Aside0.mk (blk_below (g := gc) (o := .cells #[.int .i64 0, .int .i64 0] 64 (0, 0)) (by (with_reducible repeat first | refine bN_ ?_ _ | refine bD_ ?_ | refine bA_ ?_ _); exact Bc_.out) hb); have m3 := Aside0.mk (below_step (by repeat (first | (with_reducible first | exact HB.out | apply below_alloc | apply pw_below_drewN | apply below_drew1 | refine below_set ?_ GE112.out | refine below_set ?_ GE113.out | refine below_set ?_ GE114.out) | exact HB.out)) hb); have m4 := Aside0.mk (hbox); have m5 := Aside0.mk ((by rw [hg]; exact (below_size (by repeat (first | (with_reducible first | exact HB.out | apply below_alloc | apply pw_below_drewN | apply below_drew1 | refine below_set ?_ GE112.out | refine below_set ?_ GE113.out | refine below_set ?_ GE114.out) | exact HB.out))) : w.heap.size ≤ gd)); have m6 := Aside0.mk ((by rw [hg]; exact (below_size (by repeat (first | (with_reducible first | exact HB.out | apply below_alloc | apply pw_below_drewN | apply below_drew1 | refine below_set ?_ GE112.out | refine below_set ?_ GE113.out | refine below_set ?_ GE114.out) | exact HB.out))) : w.heap.size ≤ gd)); have m7 := Aside0.mk ((by rw [hg]; exact Nat.ne_of_lt (blk_lt (g := ga) (o := .cells #[.int .i64 a1_0, .int .i64 a1_1] 64 (0, 0)) (by (with_reducible repeat first | refine bN_ ?_ _ | refine bD_ ?_ | refine bA_ ?_ _); exact Ba_.out)) : ga ≠ gd)); have m8 := Aside0.mk ((by rw [hg]; exact Nat.ne_of_gt (blk_lt (g := ga) (o := .cells #[.int .i64 a1_0, .int .i64 a1_1] 64 (0, 0)) (by (with_reducible repeat first | refine bN_ ?_ _ | refine bD_ ?_ | refine bA_ ?_ _); exact Ba_.out)) : gd ≠ ga)); have n9_ := Aside0.mk ((by rw [hg]; exact Nat.ne_of_lt (blk_lt (g := gb) (o := .cells #[.int .i64 a2_0, .int .i64 a2_1] 44 (0, 0)) (by (with_reducible repeat first | refine bN_ ?_ _ | refine bD_ ?_ | refine bA_ ?_ _); exact Bb_.out)) : gb ≠ gd)); have n10_ := Aside0.mk ((by rw [hg]; exact Nat.ne_of_gt (blk_lt (g := gb) (o := .cells #[.int .i64 a2_0, .int .i64 a2_1] 44 (0, 0)) (by (with_reducible repeat first | refine bN_ ?_ _ | refine bD_ ?_ | refine bA_ ?_ _); exact Bb_.out)) : gd ≠ gb)); have n11_ := Aside0.mk ((by rw [hg]; exact Nat.ne_of_lt (blk_lt (g := gc) (o := .cells #[.int .i64 0, .int .i64 0] 64 (0, 0)) (by (with_reducible repeat first | refine bN_ ?_ _ | refine bD_ ?_ | refine bA_ ?_ _); exact Bc_.out)) : gc ≠ gd)); have n12_ := Aside0.mk ((by rw [hg]; exact Nat.ne_of_gt (blk_lt (g := gc) (o := .cells #[.int .i64 0, .int .i64 0] 64 (0, 0)) (by (with_reducible repeat first | refine bN_ ?_ _ | refine bD_ ?_ | refine bA_ ?_ _); exact Bc_.out)) : gd ≠ gc)); clear Ba_; clear Bb_; clear Bc_; clear HB; have Ba_ := m0; have Bb_ := m1; have Bc_ := m2; have HB := m3; have Bd_ := m4; have GW115 := m5; have GE115 := m6; have Nad := m7; have Nda := m8; have Nbd := n9_; have Ndb := n10_; have Ncd := n11_; have Ndc := n12_; clear m0 m1 m2 m3 m4 m5 m6 m7 m8 n9_ n10_ n11_ n12_; clear hb hbox hg) | ((with_reducible refine gate_dst (N := 9) rfl ?_); (try (refine gate_guard (by rfl) ?_; dsimp only)); refine box_event ?hg (N := 9) ?hd (cs := #[.int .i64 0, .int .i64 0, .string (⟨#[]⟩ : ByteArray)]) (t := 46) ?hr ?_; (case hd => rfl); (case hg => rfl); (case hr => first | (go_simp; done) | (go_simp; rfl)); intro ge hg w9 hbox hb; have m0 := Aside0.mk (blk_below (g := ga) (o := .cells #[.int .i64 a1_0, .int .i64 a1_1] 64 (0, 0)) (by (with_reducible repeat first | refine bN_ ?_ _ | refine bD_ ?_ | refine bA_ ?_ _); exact Ba_.out) hb); have m1 := Aside0.mk (blk_below (g := gb) (o := .cells #[.int .i64 a2_0, .int .i64 a2_1] 44 (0, 0)) (by (with_reducible repeat first | refine bN_ ?_ _ | refine bD_ ?_ | refine bA_ ?_ _); exact Bb_.out) hb); have m2 := Aside0.mk (blk_below (g := gc) (o := .cells #[.int .i64 0, .int .i64 0] 64 (0, 0)) (by (with_reducible repeat first | refine bN_ ?_ _ | refine bD_ ?_ | refine bA_ ?_ _); exact Bc_.out) hb); have m3 := Aside0.mk (blk_below (g := gd) (o := .cells #[.int .i64 0, .int .i64 0, .string (⟨#[]⟩ : ByteArray)] 46 (0, 0)) (by (with_reducible repeat first | refine bN_ ?_ _ | refine bD_ ?_ | refine bA_ ?_ _); exact Bd_.out) hb); have m4 := Aside0.mk (below_step (by repeat (first | (with_reducible first | exact HB.out | apply below_alloc | apply pw_below_drewN | apply below_drew1 | refine below_set ?_ GE112.out | refine below_set ?_ GE113.out | refine below_set ?_ GE114.out | refine below_set ?_ GE115.out) | exact HB.out)) hb); have m5 := Aside0.mk (hbox); have m6 := Aside0.mk ((by rw [hg]; exact (below_size (by repeat (first | (with_reducible first | exact HB.out | apply below_alloc | apply pw_below_drewN | apply below_drew1 | refine below_set ?_ GE112.out | refine below_set ?_ GE113.out | refine below_set ?_ GE114.out | refine below_set ?_ GE115.out) | exact HB.out))) : w.heap.size ≤ ge)); have m7 := Aside0.mk ((by rw [hg]; exact (below_size (by repeat (first | (with_reducible first | exact HB.out | apply below_alloc | apply pw_below_drewN | apply below_drew1 | refine below_set ?_ GE112.out | refine below_set ?_ GE113.out | refine below_set ?_ GE114.out | refine below_set ?_ GE115.out) | exact HB.out))) : w.heap.size ≤ ge)); have m8 := Aside0.mk ((by rw [hg]; exact Nat.ne_of_lt (blk_lt (g := ga) (o := .cells #[.int .i64 a1_0, .int .i64 a1_1] 64 (0, 0)) (by (with_reducible repeat first | refine bN_ ?_ _ | refine bD_ ?_ | refine bA_ ?_ _); exact Ba_.out)) : ga ≠ ge)); have n9_ := Aside0.mk ((by rw [hg]; exact Nat.ne_of_gt (blk_lt (g := ga) (o := .cells #[.int .i64 a1_0, .int .i64 a1_1] 64 (0, 0)) (by (with_reducible repeat first | refine bN_ ?_ _ | refine bD_ ?_ | refine bA_ ?_ _); exact Ba_.out)) : ge ≠ ga)); have n10_ := Aside0.mk ((by rw [hg]; exact Nat.ne_of_lt (blk_lt (g := gb) (o := .cells #[.int .i64 a2_0, .int .i64 a2_1] 44 (0, 0)) (by (with_reducible repeat first | refine bN_ ?_ _ | refine bD_ ?_ | refine bA_ ?_ _); exact Bb_.out)) : gb ≠ ge)); have n11_ := Aside0.mk ((by rw [hg]; exact Nat.ne_of_gt (blk_lt (g := gb) (o := .cells #[.int .i64 a2_0, .int .i64 a2_1] 44 (0, 0)) (by (with_reducible repeat first | refine bN_ ?_ _ | refine bD_ ?_ | refine bA_ ?_ _); exact Bb_.out)) : ge ≠ gb)); have n12_ := Aside0.mk ((by rw [hg]; exact Nat.ne_of_lt (blk_lt (g := gc) (o := .cells #[.int .i64 0, .int .i64 0] 64 (0, 0)) (by (with_reducible repeat first | refine bN_ ?_ _ | refine bD_ ?_ | refine bA_ ?_ _); exact Bc_.out)) : gc ≠ ge)); have n13_ := Aside0.mk ((by rw [hg]; exact Nat.ne_of_gt (blk_lt (g := gc) (o := .cells #[.int .i64 0, .int .i64 0] 64 (0, 0)) (by (with_reducible repeat first | refine bN_ ?_ _ | refine bD_ ?_ | refine bA_ ?_ _); exact Bc_.out)) : ge ≠ gc)); have n14_ := Aside0.mk ((by rw [hg]; exact Nat.ne_of_lt (blk_lt (g := gd) (o := .cells #[.int .i64 0, .int .i64 0, .string (⟨#[]⟩ : ByteArray)] 46 (0, 0)) (by (with_reducible repeat first | refine bN_ ?_ _ | refine bD_ ?_ | refine bA_ ?_ _); exact Bd_.out)) : gd ≠ ge)); have n15_ := Aside0.mk ((by rw [hg]; exact Nat.ne_of_gt (blk_lt (g := gd) (o := .cells #[.int .i64 0, .int .i64 0, .string (⟨#[]⟩ : ByteArray)] 46 (0, 0)) (by (with_reducible repeat first | refine bN_ ?_ _ | refine bD_ ?_ | refine bA_ ?_ _); exact Bd_.out)) : ge ≠ gd)); clear Ba_; clear Bb_; clear Bc_; clear Bd_; clear HB; have Ba_ := m0; have Bb_ := m1; have Bc_ := m2; have Bd_ := m3; have HB := m4; have Be_ := m5; have GW116 := m6; have GE116 := m7; have Nae := m8; have Nea := n9_; have Nbe := n10_; have Neb := n11_; have Nce := n12_; have Nec := n13_; have Nde := n14_; have Ned := n15_; clear m0 m1 m2 m3 m4 m5 m6 m7 m8 n9_ n10_ n11_ n12_ n13_ n14_ n15_; clear hb hbox hg; have hnb10 := Nea.out; have hnc10 := Nae.out; have hnb11 := Neb.out; have hnc11 := Nbe.out; have hnb12 := Nec.out; have hnc12 := Nce.out; have hnb13 := Ned.out; have hnc13 := Nde.out; have hcz14_0 : w9.cell? ⟨ge, 0, none⟩ = some (.int .i64 0) := (blk_cell Be_.out 0).trans rfl; have hcz14_1 : w9.cell? ⟨ge, 1, none⟩ = some (.int .i64 0) := (blk_cell Be_.out 1).trans rfl; have hcz14_2 : w9.cell? ⟨ge, 2, none⟩ = some (.string (⟨#[]⟩ : ByteArray)) := (blk_cell Be_.out 2).trans rfl; have hfz14_0 := blk_frozen Be_.out 0; have hfz14_1 := blk_frozen Be_.out 1; have hfz14_2 := blk_frozen Be_.out 2; have hnb15 := Nab.out; have hnc15 := Nba.out; have hnb16 := Nac.out; have hnc16 := Nca.out; have hnb17 := Nad.out; have hnc17 := Nda.out; have hcz18_0 : w9.cell? ⟨ga, 0, none⟩ = some (.int .i64 a1_0) := (blk_cell Ba_.out 0).trans rfl; have hcz18_1 : w9.cell? ⟨ga, 1, none⟩ = some (.int .i64 a1_1) := (blk_cell Ba_.out 1).trans rfl; have hfz18_0 := blk_frozen Ba_.out 0; have hfz18_1 := blk_frozen Ba_.out 1; have hnb19 := Nbc.out; have hnc19 := Ncb.out; have hnb20 := Nbd.out; have hnc20 := Ndb.out; have hcz21_0 : w9.cell? ⟨gb, 0, none⟩ = some (.int .i64 a2_0) := (blk_cell Bb_.out 0).trans rfl; have hcz21_1 : w9.cell? ⟨gb, 1, none⟩ = some (.int .i64 a2_1) := (blk_cell Bb_.out 1).trans rfl; have hfz21_0 := blk_frozen Bb_.out 0; have hfz21_1 := blk_frozen Bb_.out 1))
  (try simp only [Act.put, List.setIfInBounds_toArray, List.set_cons_zero, List.set_cons_succ])
  go_cut [11] (fun v11 wc => ∃ (kq : Nat) (x11_3 : Bool), v11 = .bool x11_3 ∧ Aside0 (spec_Next.j0 kq l0 (wrap64 (a1_1 + a2_1)) x11_3 a1_0 a1_1 a2_0 a2_1 0 0 (⟨#[]⟩ : ByteArray) = some (r1, r2, r3, r4, r5, r6)) ∧ Aside0 (kq ≤ k) ∧ Aside0 (wc.heap[ga]? = some (.cells #[.int .i64 a1_0, .int .i64 a1_1] 64 (0, 0))) ∧ Aside0 (wc.heap[gb]? = some (.cells #[.int .i64 a2_0, .int .i64 a2_1] 44 (0, 0))) ∧ Aside0 (wc.heap[gc]? = some (.cells #[.int .i64 0, .int .i64 0] 64 (0, 0))) ∧ Aside0 (wc.heap[gd]? = some (.cells #[.int .i64 0, .int .i64 0, .string (⟨#[]⟩ : ByteArray)] 46 (0, 0))) ∧ Aside0 (wc.heap[ge]? = some (.cells #[.int .i64 0, .int .i64 0, .string (⟨#[]⟩ : ByteArray)] 46 (0, 0))) ∧ Aside0 (Below w.heap.size w wc))
  case first =>
    have H := HC4.out
    clear HC4
    by_cases c22 : a2_1 ≥ (wrap64 (-(l0.length : Int)))
    ·
     rw [if_pos c22] at H
     have c22b0 : decide ((wrap64 (-(l0.length : Int))) ≤ a2_1) = true := decide_eq_true c22
     clear c22
     (first | rw [c22b0] | (simp only [i64_w, i32_w]; rw [c22b0]) | skip)
     by_cases c23 : a2_1 ≤ (l0.length : Int)
     ·
      rw [if_pos c23] at H
      have c23b0 : decide (a2_1 ≤ (l0.length : Int)) = true := decide_eq_true c23
      clear c23
      by_cases c24 : (wrap64 (a1_1 + a2_1)) ≥ a1_0
      ·
       rw [if_pos c24] at H
       have c24b0 : decide (a1_0 ≤ (wrap64 (a1_1 + a2_1))) = true := decide_eq_true c24
       clear c24
       have H' := Aside0.mk H
       clear H
       have hnb25 := Nba.out
       have hnc25 := Nab.out
       have hnb26 := Nbc.out
       have hnc26 := Ncb.out
       have hnb27 := Nbd.out
       have hnc27 := Ndb.out
       have hnb28 := Nbe.out
       have hnc28 := Neb.out
       have hcz29_0 : w9.cell? ⟨gb, 0, none⟩ = some (.int .i64 a2_0) := (blk_cell Bb_.out 0).trans rfl
       have hcz29_1 : w9.cell? ⟨gb, 1, none⟩ = some (.int .i64 a2_1) := (blk_cell Bb_.out 1).trans rfl
       have hfz29_0 := blk_frozen Bb_.out 0
       have hfz29_1 := blk_frozen Bb_.out 1
       have hnb30 := Nac.out
       have hnc30 := Nca.out
       have hnb31 := Nad.out
       have hnc31 := Nda.out
       have hnb32 := Nae.out
       have hnc32 := Nea.out
       have hcz33_0 : w9.cell? ⟨ga, 0, none⟩ = some (.int .i64 a1_0) := (blk_cell Ba_.out 0).trans rfl
       have hcz33_1 : w9.cell? ⟨ga, 1, none⟩ = some (.int .i64 a1_1) := (blk_cell Ba_.out 1).trans rfl
       have hfz33_0 := blk_frozen Ba_.out 0
       have hfz33_1 := blk_frozen Ba_.out 1
       go_wp2
       go_meet
       case rel => exact ⟨_, (decide ((wrap64 (a1_1 + a2_1)) ≤ (l0.length : Int))), (by first | rfl | (simp; done) | (simp [*]; done)), H', ⟨by first | omega | exact Nat.le_refl _⟩, ⟨by (with_reducible repeat first | refine bN_ ?_ _ | refine bD_ ?_ | refine bA_ ?_ _); refine blk_far ?_ Nae.out _; (with_reducible repeat first | refine bN_ ?_ _ | refine bD_ ?_ | refine bA_ ?_ _); refine blk_far ?_ Nae.out _; (with_reducible repeat first | refine bN_ ?_ _ | refine bD_ ?_ | refine bA_ ?_ _); refine blk_far ?_ Nae.out _; (with_reducible repeat first | refine bN_ ?_ _ | refine bD_ ?_ | refine bA_ ?_ _); exact Ba_.out⟩, ⟨by (with_reducible repeat first | refine bN_ ?_ _ | refine bD_ ?_ | refine bA_ ?_ _); refine blk_far ?_ Nbe.out _; (with_reducible repeat first | refine bN_ ?_ _ | refine bD_ ?_ | refine bA_ ?_ _); refine blk_far ?_ Nbe.out _; (with_reducible repeat first | refine bN_ ?_ _ | refine bD_ ?_ | refine bA_ ?_ _); refine blk_far ?_ Nbe.out _; (with_reducible repeat first | refine bN_ ?_ _ | refine bD_ ?_ | refine bA_ ?_ _); exact Bb_.out⟩, ⟨by (with_reducible repeat first | refine bN_ ?_ _ | refine bD_ ?_ | refine bA_ ?_ _); refine blk_far ?_ Nce.out _; (with_reducible repeat first | refine bN_ ?_ _ | refine bD_ ?_ | refine bA_ ?_ _); refine blk_far ?_ Nce.out _; (with_reducible repeat first | refine bN_ ?_ _ | refine bD_ ?_ | refine bA_ ?_ _); refine blk_far ?_ Nce.out _; (with_reducible repeat first | refine bN_ ?_ _ | refine bD_ ?_ | refine bA_ ?_ _); exact Bc_.out⟩, ⟨by (with_reducible repeat first | refine bN_ ?_ _ | refine bD_ ?_ | refine bA_ ?_ _); refine blk_far ?_ Nde.out _; (with_reducible repeat first | refine bN_ ?_ _ | refine bD_ ?_ | refine bA_ ?_ _); refine blk_far ?_ Nde.out _; (with_reducible repeat first | refine bN_ ?_ _ | refine bD_ ?_ | refine bA_ ?_ _); refine blk_far ?_ Nde.out _; (with_reducible repeat first | refine bN_ ?_ _ | refine bD_ ?_ | refine bA_ ?_ _); exact Bd_.out⟩, ⟨by (with_reducible repeat first | refine bN_ ?_ _ | refine bD_ ?_ | refine bA_ ?_ _); refine blk_put (cs := #[.int .i64 0, .int .i64 0, .string (⟨#[]⟩ : ByteArray)]) ?_ 2 _ rfl; (with_reducible repeat first | refine bN_ ?_ _ | refine bD_ ?_ | refine bA_ ?_ _); refine blk_put (cs := #[.int .i64 0, .int .i64 0, .string (⟨#[]⟩ : ByteArray)]) ?_ 1 _ rfl; (with_reducible repeat first | refine bN_ ?_ _ | refine bD_ ?_ | refine bA_ ?_ _); refine blk_put (cs := #[.int .i64 0, .int .i64 0, .string (⟨#[]⟩ : ByteArray)]) ?_ 0 _ rfl; (with_reducible repeat first | refine bN_ ?_ _ | refine bD_ ?_ | refine bA_ ?_ _); exact Be_.out⟩, ⟨by repeat (first | (with_reducible first | exact HB.out | apply below_alloc | apply pw_below_drewN | apply below_drew1 | refine below_set ?_ GE112.out | refine below_set ?_ GE113.out | refine below_set ?_ GE114.out | refine below_set ?_ GE115.out | refine below_set ?_ GE116.out) | exact HB.out)⟩⟩
      ·
       rw [if_neg c24] at H
       have c24b0 : decide (a1_0 ≤ (wrap64 (a1_1 + a2_1))) = false := decide_eq_false c24
       clear c24
       have H' := Aside0.mk H
       clear H
       have hnb34 := Nba.out
       have hnc34 := Nab.out
       have hnb35 := Nbc.out
       have hnc35 := Ncb.out
       have hnb36 := Nbd.out
       have hnc36 := Ndb.out
       have hnb37 := Nbe.out
       have hnc37 := Neb.out
       have hcz38_0 : w9.cell? ⟨gb, 0, none⟩ = some (.int .i64 a2_0) := (blk_cell Bb_.out 0).trans rfl
       have hcz38_1 : w9.cell? ⟨gb, 1, none⟩ = some (.int .i64 a2_1) := (blk_cell Bb_.out 1).trans rfl
       have hfz38_0 := blk_frozen Bb_.out 0
       have hfz38_1 := blk_frozen Bb_.out 1
       have hnb39 := Nac.out
       have hnc39 := Nca.out
       have hnb40 := Nad.out
       have hnc40 := Nda.out
       have hnb41 := Nae.out
       have hnc41 := Nea.out
       have hcz42_0 : w9.cell? ⟨ga, 0, none⟩ = some (.int .i64 a1_0) := (blk_cell Ba_.out 0).trans rfl
       have hcz42_1 : w9.cell? ⟨ga, 1, none⟩ = some (.int .i64 a1_1) := (blk_cell Ba_.out 1).trans rfl
       have hfz42_0 := blk_frozen Ba_.out 0
       have hfz42_1 := blk_frozen Ba_.out 1
       go_wp2
       go_meet
       case rel => exact ⟨_, (false), (by first | rfl | (simp; done) | (simp [*]; done)), H', ⟨by first | omega | exact Nat.le_refl _⟩, ⟨by (with_reducible repeat first | refine bN_ ?_ _ | refine bD_ ?_ | refine bA_ ?_ _); refine blk_far ?_ Nae.out _; (with_reducible repeat first | refine bN_ ?_ _ | refine bD_ ?_ | refine bA_ ?_ _); refine blk_far ?_ Nae.out _; (with_reducible repeat first | refine bN_ ?_ _ | refine bD_ ?_ | refine bA_ ?_ _); refine blk_far ?_ Nae.out _; (with_reducible repeat first | refine bN_ ?_ _ | refine bD_ ?_ | refine bA_ ?_ _); exact Ba_.out⟩, ⟨by (with_reducible repeat first | refine bN_ ?_ _ | refine bD_ ?_ | refine bA_ ?_ _); refine blk_far ?_ Nbe.out _; (with_reducible repeat first | refine bN_ ?_ _ | refine bD_ ?_ | refine bA_ ?_ _); refine blk_far ?_ Nbe.out _; (with_reducible repeat first | refine bN_ ?_ _ | refine bD_ ?_ | refine bA_ ?_ _); refine blk_far ?_ Nbe.out _; (with_reducible repeat first | refine bN_ ?_ _ | refine bD_ ?_ | refine bA_ ?_ _); exact Bb_.out⟩, ⟨by (with_reducible repeat first | refine bN_ ?_ _ | refine bD_ ?_ | refine bA_ ?_ _); refine blk_far ?_ Nce.out _; (with_reducible repeat first | refine bN_ ?_ _ | refine bD_ ?_ | refine bA_ ?_ _); refine blk_far ?_ Nce.out _; (with_reducible repeat first | refine bN_ ?_ _ | refine bD_ ?_ | refine bA_ ?_ _); refine blk_far ?_ Nce.out _; (with_reducible repeat first | refine bN_ ?_ _ | refine bD_ ?_ | refine bA_ ?_ _); exact Bc_.out⟩, ⟨by (with_reducible repeat first | refine bN_ ?_ _ | refine bD_ ?_ | refine bA_ ?_ _); refine blk_far ?_ Nde.out _; (with_reducible repeat first | refine bN_ ?_ _ | refine bD_ ?_ | refine bA_ ?_ _); refine blk_far ?_ Nde.out _; (with_reducible repeat first | refine bN_ ?_ _ | refine bD_ ?_ | refine bA_ ?_ _); refine blk_far ?_ Nde.out _; (with_reducible repeat first | refine bN_ ?_ _ | refine bD_ ?_ | refine bA_ ?_ _); exact Bd_.out⟩, ⟨by (with_reducible repeat first | refine bN_ ?_ _ | refine bD_ ?_ | refine bA_ ?_ _); refine blk_put (cs := #[.int .i64 0, .int .i64 0, .string (⟨#[]⟩ : ByteArray)]) ?_ 2 _ rfl; (with_reducible repeat first | refine bN_ ?_ _ | refine bD_ ?_ | refine bA_ ?_ _); refine blk_put (cs := #[.int .i64 0, .int .i64 0, .string (⟨#[]⟩ : ByteArray)]) ?_ 1 _ rfl; (with_reducible repeat first | refine bN_ ?_ _ | refine bD_ ?_ | refine bA_ ?_ _); refine blk_put (cs := #[.int .i64 0, .int .i64 0, .string (⟨#[]⟩ : ByteArray)]) ?_ 0 _ rfl; (with_reducible repeat first | refine bN_ ?_ _ | refine bD_ ?_ | refine bA_ ?_ _); exact Be_.out⟩, ⟨by repeat (first | (with_reducible first | exact HB.out | apply below_alloc | apply pw_below_drewN | apply below_drew1 | refine below_set ?_ GE112.out | refine below_set ?_ GE113.out | refine below_set ?_ GE114.out | refine below_set ?_ GE115.out | refine below_set ?_ GE116.out) | exact HB.out)⟩⟩
     ·
      rw [if_neg c23] at H
      have c23b0 : decide (a2_1 ≤ (l0.length : Int)) = false := decide_eq_false c23
      clear c23
      have H' := Aside0.mk H
      clear H
      have hnb43 := Nba.out
      have hnc43 := Nab.out
      have hnb44 := Nbc.out
      have hnc44 := Ncb.out
      have hnb45 := Nbd.out
      have hnc45 := Ndb.out
      have hnb46 := Nbe.out
      have hnc46 := Neb.out
      have hcz47_0 : w9.cell? ⟨gb, 0, none⟩ = some (.int .i64 a2_0) := (blk_cell Bb_.out 0).trans rfl
      have hcz47_1 : w9.cell? ⟨gb, 1, none⟩ = some (.int .i64 a2_1) := (blk_cell Bb_.out 1).trans rfl
      have hfz47_0 := blk_frozen Bb_.out 0
      have hfz47_1 := blk_frozen Bb_.out 1
      go_wp2
      go_meet
      case rel => exact ⟨_, (false), (by first | rfl | (simp; done) | (simp [*]; done)), H', ⟨by first | omega | exact Nat.le_refl _⟩, ⟨by (with_reducible repeat first | refine bN_ ?_ _ | refine bD_ ?_ | refine bA_ ?_ _); refine blk_far ?_ Nae.out _; (with_reducible repeat first | refine bN_ ?_ _ | refine bD_ ?_ | refine bA_ ?_ _); refine blk_far ?_ Nae.out _; (with_reducible repeat first | refine bN_ ?_ _ | refine bD_ ?_ | refine bA_ ?_ _); refine blk_far ?_ Nae.out _; (with_reducible repeat first | refine bN_ ?_ _ | refine bD_ ?_ | refine bA_ ?_ _); exact Ba_.out⟩, ⟨by (with_reducible repeat first | refine bN_ ?_ _ | refine bD_ ?_ | refine bA_ ?_ _); refine blk_far ?_ Nbe.out _; (with_reducible repeat first | refine bN_ ?_ _ | refine bD_ ?_ | refine bA_ ?_ _); refine blk_far ?_ Nbe.out _; (with_reducible repeat first | refine bN_ ?_ _ | refine bD_ ?_ | refine bA_ ?_ _); refine blk_far ?_ Nbe.out _; (with_reducible repeat first | refine bN_ ?_ _ | refine bD_ ?_ | refine bA_ ?_ _); exact Bb_.out⟩, ⟨by (with_reducible repeat first | refine bN_ ?_ _ | refine bD_ ?_ | refine bA_ ?_ _); refine blk_far ?_ Nce.out _; (with_reducible repeat first | refine bN_ ?_ _ | refine bD_ ?_ | refine bA_ ?_ _); refine blk_far ?_ Nce.out _; (with_reducible repeat first | refine bN_ ?_ _ | refine bD_ ?_ | refine bA_ ?_ _); refine blk_far ?_ Nce.out _; (with_reducible repeat first | refine bN_ ?_ _ | refine bD_ ?_ | refine bA_ ?_ _); exact Bc_.out⟩, ⟨by (with_reducible repeat first | refine bN_ ?_ _ | refine bD_ ?_ | refine bA_ ?_ _); refine blk_far ?_ Nde.out _; (with_reducible repeat first | refine bN_ ?_ _ | refine bD_ ?_ | refine bA_ ?_ _); refine blk_far ?_ Nde.out _; (with_reducible repeat first | refine bN_ ?_ _ | refine bD_ ?_ | refine bA_ ?_ _); refine blk_far ?_ Nde.out _; (with_reducible repeat first | refine bN_ ?_ _ | refine bD_ ?_ | refine bA_ ?_ _); exact Bd_.out⟩, ⟨by (with_reducible repeat first | refine bN_ ?_ _ | refine bD_ ?_ | refine bA_ ?_ _); refine blk_put (cs := #[.int .i64 0, .int .i64 0, .string (⟨#[]⟩ : ByteArray)]) ?_ 2 _ rfl; (with_reducible repeat first | refine bN_ ?_ _ | refine bD_ ?_ | refine bA_ ?_ _); refine blk_put (cs := #[.int .i64 0, .int .i64 0, .string (⟨#[]⟩ : ByteArray)]) ?_ 1 _ rfl; (with_reducible repeat first | refine bN_ ?_ _ | refine bD_ ?_ | refine bA_ ?_ _); refine blk_put (cs := #[.int .i64 0, .int .i64 0, .string (⟨#[]⟩ : ByteArray)]) ?_ 0 _ rfl; (with_reducible repeat first | refine bN_ ?_ _ | refine bD_ ?_ | refine bA_ ?_ _); exact Be_.out⟩, ⟨by repeat (first | (with_reducible first | exact HB.out | apply below_alloc | apply pw_below_drewN | apply below_drew1 | refine below_set ?_ GE112.out | refine below_set ?_ GE113.out | refine below_set ?_ GE114.out | refine below_set ?_ GE115.out | refine below_set ?_ GE116.out) | exact HB.out)⟩⟩
    ·
     rw [if_neg c22] at H
     have c22b0 : decide ((wrap64 (-(l0.length : Int))) ≤ a2_1) = false := decide_eq_false c22
     clear c22
     (first | rw [c22b0] | (simp only [i64_w, i32_w]; rw [c22b0]) | skip)
     have H' := Aside0.mk H
     clear H
     have hnb48 := Nba.out
     have hnc48 := Nab.out
     have hnb49 := Nbc.out
     have hnc49 := Ncb.out
     have hnb50 := Nbd.out
     have hnc50 := Ndb.out
     have hnb51 := Nbe.out
     have hnc51 := Neb.out
     have hcz52_0 : w9.cell? ⟨gb, 0, none⟩ = some (.int .i64 a2_0) := (blk_cell Bb_.out 0).trans rfl
     have hcz52_1 : w9.cell? ⟨gb, 1, none⟩ = some (.int .i64 a2_1) := (blk_cell Bb_.out 1).trans rfl
     have hfz52_0 := blk_frozen Bb_.out 0
     have hfz52_1 := blk_frozen Bb_.out 1
     go_wp2
     go_meet
     case rel => exact ⟨_, (false), (by first | rfl | (simp; done) | (simp [*]; done)), H', ⟨by first | omega | exact Nat.le_refl _⟩, ⟨by (with_reducible repeat first | refine bN_ ?_ _ | refine bD_ ?_ | refine bA_ ?_ _); refine blk_far ?_ Nae.out _; (with_reducible repeat first | refine bN_ ?_ _ | refine bD_ ?_ | refine bA_ ?_ _); refine blk_far ?_ Nae.out _; (with_reducible repeat first | refine bN_ ?_ _ | refine bD_ ?_ | refine bA_ ?_ _); refine blk_far ?_ Nae.out _; (with_reducible repeat first | refine bN_ ?_ _ | refine bD_ ?_ | refine bA_ ?_ _); exact Ba_.out⟩, ⟨by (with_reducible repeat first | refine bN_ ?_ _ | refine bD_ ?_ | refine bA_ ?_ _); refine blk_far ?_ Nbe.out _; (with_reducible repeat first | refine bN_ ?_ _ | refine bD_ ?_ | refine bA_ ?_ _); refine blk_far ?_ Nbe.out _; (with_reducible repeat first | refine bN_ ?_ _ | refine bD_ ?_ | refine bA_ ?_ _); refine blk_far ?_ Nbe.out _; (with_reducible repeat first | refine bN_ ?_ _ | refine bD_ ?_ | refine bA_ ?_ _); exact Bb_.out⟩, ⟨by (with_reducible repeat first | refine bN_ ?_ _ | refine bD_ ?_ | refine bA_ ?_ _); refine blk_far ?_ Nce.out _; (with_reducible repeat first | refine bN_ ?_ _ | refine bD_ ?_ | refine bA_ ?_ _); refine blk_far ?_ Nce.out _; (with_reducible repeat first | refine bN_ ?_ _ | refine bD_ ?_ | refine bA_ ?_ _); refine blk_far ?_ Nce.out _; (with_reducible repeat first | refine bN_ ?_ _ | refine bD_ ?_ | refine bA_ ?_ _); exact Bc_.out⟩, ⟨by (with_reducible repeat first | refine bN_ ?_ _ | refine bD_ ?_ | refine bA_ ?_ _); refine blk_far ?_ Nde.out _; (with_reducible repeat first | refine bN_ ?_ _ | refine bD_ ?_ | refine bA_ ?_ _); refine blk_far ?_ Nde.out _; (with_reducible repeat first | refine bN_ ?_ _ | refine bD_ ?_ | refine bA_ ?_ _); refine blk_far ?_ Nde.out _; (with_reducible repeat first | refine bN_ ?_ _ | refine bD_ ?_ | refine bA_ ?_ _); exact Bd_.out⟩, ⟨by (with_reducible repeat first | refine bN_ ?_ _ | refine bD_ ?_ | refine bA_ ?_ _); refine blk_put (cs := #[.int .i64 0, .int .i64 0, .string (⟨#[]⟩ : ByteArray)]) ?_ 2 _ rfl; (with_reducible repeat first | refine bN_ ?_ _ | refine bD_ ?_ | refine bA_ ?_ _); refine blk_put (cs := #[.int .i64 0, .int .i64 0, .string (⟨#[]⟩ : ByteArray)]) ?_ 1 _ rfl; (with_reducible repeat first | refine bN_ ?_ _ | refine bD_ ?_ | refine bA_ ?_ _); refine blk_put (cs := #[.int .i64 0, .int .i64 0, .string (⟨#[]⟩ : ByteArray)]) ?_ 0 _ rfl; (with_reducible repeat first | refine bN_ ?_ _ | refine bD_ ?_ | refine bA_ ?_ _); exact Be_.out⟩, ⟨by repeat (first | (with_reducible first | exact HB.out | apply below_alloc | apply pw_below_drewN | apply below_drew1 | refine below_set ?_ GE112.out | refine below_set ?_ GE113.out | refine below_set ?_ GE114.out | refine below_set ?_ GE115.out | refine below_set ?_ GE116.out) | exact HB.out)⟩⟩
  case rest =>
    clear HC4
    try clear c1
    try clear c2
    try clear p2
    try clear c3
    try clear c4
    try clear c5
    try clear p6
    try clear c10
    try clear c11
    try clear c12
    try clear c13
    try clear c15
    try clear c16
    try clear c17
    try clear c19
    try clear c20
    try clear c22
    try clear c22b0
    try clear c23
    try clear c23b0
    try clear c24
    try clear c24b0
    try clear c25
    try clear c26
    try clear c27
    try clear c28
    try clear c30
    try clear c31
    try clear c32
    try clear c34
    try clear c35
    try clear c36
    try clear c37
    try clear c39
    try clear c40
    try clear c41
    try clear c43
    try clear c44
    try clear c45
    try clear c46
    try clear c48
    try clear c49
    try clear c50
    try clear c51
    try clear hcz14_0
    try clear hcz14_1
    try clear hcz14_2
    try clear hcz18_0
    try clear hcz18_1
    try clear hcz21_0
    try clear hcz21_1
    try clear hcz29_0
    try clear hcz29_1
    try clear hcz33_0
    try clear hcz33_1
    try clear hcz38_0
    try clear hcz38_1
    try clear hcz42_0
    try clear hcz42_1
    try clear hcz47_0
    try clear hcz47_1
    try clear hcz52_0
    try clear hcz52_1
    try clear hfz14_0
    try clear hfz14_1
    try clear hfz14_2
    try clear hfz18_0
    try clear hfz18_1
    try clear hfz21_0
    try clear hfz21_1
    try clear hfz29_0
    try clear hfz29_1
    try clear hfz33_0
    try clear hfz33_1
    try clear hfz38_0
    try clear hfz38_1
    try clear hfz42_0
    try clear hfz42_1
    try clear hfz47_0
    try clear hfz47_1
    try clear hfz52_0
    try clear hfz52_1
    obtain ⟨kq, x11_3, rfl, HA, HJ3, Ba_, Bb_, Bc_, Bd_, Be_, HB⟩ := hcut
    cases kq with
    | zero => exact absurd HA.out (by simp [spec_Next.j0])
    | succ kj3 =>
     have H := HA.out
     clear HA
     simp only [spec_Next.j0] at H
     by_cases c53 : a2_0 = 0
     ·
      rw [if_pos c53] at H
      have c53b0 : (a2_0 == 0) = true := beq_iff_eq.mpr c53
      have c53b1 : (a2_0 != 0) = false := bne_eq_false_iff_eq.mpr c53
      clear c53
      simp only [Option.some.injEq, Prod.mk.injEq] at H
      obtain ⟨rfl, rfl, rfl, rfl, rfl, rfl⟩ := H
      have hnb54 := Nba.out
      have hnc54 := Nab.out
      have hnb55 := Nbc.out
      have hnc55 := Ncb.out
      have hnb56 := Nbd.out
      have hnc56 := Ndb.out
      have hnb57 := Nbe.out
      have hnc57 := Neb.out
      have hcz58_0 : wc.cell? ⟨gb, 0, none⟩ = some (.int .i64 a2_0) := (blk_cell Bb_.out 0).trans rfl
      have hcz58_1 : wc.cell? ⟨gb, 1, none⟩ = some (.int .i64 a2_1) := (blk_cell Bb_.out 1).trans rfl
      have hfz58_0 := blk_frozen Bb_.out 0
      have hfz58_1 := blk_frozen Bb_.out 1
      have hnb59 := Nac.out
      have hnc59 := Nca.out
      have hnb60 := Nad.out
      have hnc60 := Nda.out
      have hnb61 := Nae.out
      have hnc61 := Nea.out
      have hcz62_0 : wc.cell? ⟨ga, 0, none⟩ = some (.int .i64 a1_0) := (blk_cell Ba_.out 0).trans rfl
      have hcz62_1 : wc.cell? ⟨ga, 1, none⟩ = some (.int .i64 a1_1) := (blk_cell Ba_.out 1).trans rfl
      have hfz62_0 := blk_frozen Ba_.out 0
      have hfz62_1 := blk_frozen Ba_.out 1
      try go_wp2
      have m0 : Aside0 ((wc.setCell ⟨ga, 1, none⟩ (.int .i64 (wrap64 (a1_1 + a2_1)))).heap[ga]? = some (.cells #[.int .i64 a1_0, .int .i64 (wrap64 (a1_1 + a2_1))] 64 (0, 0))) := ⟨by (with_reducible repeat first | refine bN_ ?_ _ | refine bD_ ?_ | refine bA_ ?_ _); refine blk_put (cs := #[.int .i64 a1_0, .int .i64 a1_1]) ?_ 1 _ rfl; (with_reducible repeat first | refine bN_ ?_ _ | refine bD_ ?_ | refine bA_ ?_ _); exact Ba_.out⟩
      have m1 : Aside0 ((wc.setCell ⟨ga, 1, none⟩ (.int .i64 (wrap64 (a1_1 + a2_1)))).heap[gb]? = some (.cells #[.int .i64 a2_0, .int .i64 a2_1] 44 (0, 0))) := ⟨by (with_reducible repeat first | refine bN_ ?_ _ | refine bD_ ?_ | refine bA_ ?_ _); refine blk_far ?_ Nba.out _; (with_reducible repeat first | refine bN_ ?_ _ | refine bD_ ?_ | refine bA_ ?_ _); exact Bb_.out⟩
      have m2 : Aside0 ((wc.setCell ⟨ga, 1, none⟩ (.int .i64 (wrap64 (a1_1 + a2_1)))).heap[gc]? = some (.cells #[.int .i64 0, .int .i64 0] 64 (0, 0))) := ⟨by (with_reducible repeat first | refine bN_ ?_ _ | refine bD_ ?_ | refine bA_ ?_ _); refine blk_far ?_ Nca.out _; (with_reducible repeat first | refine bN_ ?_ _ | refine bD_ ?_ | refine bA_ ?_ _); exact Bc_.out⟩
      have m3 : Aside0 ((wc.setCell ⟨ga, 1, none⟩ (.int .i64 (wrap64 (a1_1 + a2_1)))).heap[gd]? = some (.cells #[.int .i64 0, .int .i64 0, .string (⟨#[]⟩ : ByteArray)] 46 (0, 0))) := ⟨by (with_reducible repeat first | refine bN_ ?_ _ | refine bD_ ?_ | refine bA_ ?_ _); refine blk_far ?_ Nda.out _; (with_reducible repeat first | refine bN_ ?_ _ | refine bD_ ?_ | refine bA_ ?_ _); exact Bd_.out⟩
      have m4 : Aside0 ((wc.setCell ⟨ga, 1, none⟩ (.int .i64 (wrap64 (a1_1 + a2_1)))).heap[ge]? = some (.cells #[.int .i64 0, .int .i64 0, .string (⟨#[]⟩ : ByteArray)] 46 (0, 0))) := ⟨by (with_reducible repeat first | refine bN_ ?_ _ | refine bD_ ?_ | refine bA_ ?_ _); refine blk_far ?_ Nea.out _; (with_reducible repeat first | refine bN_ ?_ _ | refine bD_ ?_ | refine bA_ ?_ _); exact Be_.out⟩
      have m5 : Aside0 (Below w.heap.size w (wc.setCell ⟨ga, 1, none⟩ (.int .i64 (wrap64 (a1_1 + a2_1))))) := ⟨by repeat (first | (with_reducible first | exact HB.out | apply below_alloc | apply pw_below_drewN | apply below_drew1 | refine below_set ?_ GE112.out | refine below_set ?_ GE113.out | refine below_set ?_ GE114.out | refine below_set ?_ GE115.out | refine below_set ?_ GE116.out) | exact HB.out)⟩
      (try clear Ba_)
      (try clear Bb_)
      (try clear Bc_)
      (try clear Bd_)
      (try clear Be_)
      (try clear HB)
      generalize (wc.setCell ⟨ga, 1, none⟩ (.int .i64 (wrap64 (a1_1 + a2_1)))) = w63 at m0 m1 m2 m3 m4 m5 ⊢
      have Ba_ := m0
      have Bb_ := m1
      have Bc_ := m2
      have Bd_ := m3
      have Be_ := m4
      have HB := m5
      clear m0 m1 m2 m3 m4 m5
      have m0 := Aside0.mk (blk_drew Ba_.out)
      have m1 := Aside0.mk (blk_drew Bb_.out)
      have m2 := Aside0.mk (blk_drew Bc_.out)
      have m3 := Aside0.mk (blk_drew Bd_.out)
      have m4 := Aside0.mk (blk_drew Be_.out)
      have m5 := Aside0.mk (below_drew1 HB.out)
      clear Ba_
      clear Bb_
      clear Bc_
      clear Bd_
      clear Be_
      clear HB
      have Ba_ := m0
      have Bb_ := m1
      have Bc_ := m2
      have Bd_ := m3
      have Be_ := m4
      have HB := m5
      clear m0 m1 m2 m3 m4 m5
      refine start_ (n := 6) (S := fun w' => w'.cell? ⟨ga, 0, none⟩ = some (.int .i64 a1_0) ∧ w'.cell? ⟨ga, 1, none⟩ = some (.int .i64 (wrap64 (a1_1 + a2_1))) ∧ w'.cell? ⟨ge, 0, none⟩ = some (.int .i64 0) ∧ w'.cell? ⟨ge, 1, none⟩ = some (.int .i64 0) ∧ w'.cell? ⟨ge, 2, none⟩ = some (.string (⟨#[]⟩ : ByteArray))) (ds := []) #[false, false, false, false, false, false] (by kernel_rfl) rfl rfl ⟨(blk_cell Ba_.out 0).trans rfl, (blk_cell Ba_.out 1).trans rfl, (blk_cell Be_.out 0).trans rfl, (blk_cell Be_.out 1).trans rfl, (blk_cell Be_.out 2).trans rfl⟩ (fun hH => ?_)
      generalize w63.drew = w64 at Ba_ Bb_ Bc_ Bd_ Be_ HB hH ⊢
      refine pure_ (i := 2) (N := some 55) (v := ?_) (a' := ?_) #[false, false, true, false, false, false] rfl rfl (by kernel_rfl) (fun _ _ _ h => h) (Or.inl ⟨by rfl, ?_⟩) ?_ ?_
      rotate_left
      ·
       intro w'
       go_simp
       with_reducible rfl
      rotate_left
      ·
       simp only [Act.put, List.setIfInBounds_toArray, List.set_cons_zero, List.set_cons_succ, i64_w, i32_w]
       rfl
      refine take_ (i := 0) (N := some 53) (v := ?_) (a' := ?_) #[true, false, true, false, false, false] rfl rfl (by kernel_rfl) (fun _ _ _ h => h) (Or.inl ⟨by rfl, ?_⟩) hH ?_ ?_
      rotate_left
      ·
       rintro w' ⟨s0, s1, s2, s3, s4⟩
       go_simp
       with_reducible rfl
      rotate_left
      ·
       simp only [Act.put, List.setIfInBounds_toArray, List.set_cons_zero, List.set_cons_succ, i64_w, i32_w]
       rfl
      refine take_ (i := 1) (N := some 54) (v := ?_) (a' := ?_) #[true, true, true, false, false, false] rfl rfl (by kernel_rfl) (fun _ _ _ h => h) (Or.inl ⟨by rfl, ?_⟩) hH ?_ ?_
      rotate_left
      ·
       rintro w' ⟨s0, s1, s2, s3, s4⟩
       go_simp
       with_reducible rfl
      rotate_left
      ·
       simp only [Act.put, List.setIfInBounds_toArray, List.set_cons_zero, List.set_cons_succ, i64_w, i32_w]
       rfl
      refine one_ (i := 3) (N := none) #[true, true, true, true, false, false] rfl rfl (by kernel_rfl) (by decide) (fun K hK => ?_)
      have hs65 : w64.cell? ⟨gc, 0, none⟩ = some (.int .i64 0) := (blk_cell Bc_.out 0).trans rfl
      have hfs65 := blk_frozen Bc_.out 0
      have hns65_0 := Nac.out
      have hns65_1 := Nbc.out
      have hns65_3 := Ndc.out
      have hns65_4 := Nec.out
      have hms65_0 := Nca.out
      have hms65_1 := Ncb.out
      have hms65_3 := Ncd.out
      have hms65_4 := Nce.out
      have hs66 : w64.cell? ⟨gc, 1, none⟩ = some (.int .i64 0) := (blk_cell Bc_.out 1).trans rfl
      have hfs66 := blk_frozen Bc_.out 1
      have hns66_0 := Nac.out
      have hns66_1 := Nbc.out
      have hns66_3 := Ndc.out
      have hns66_4 := Nec.out
      have hms66_0 := Nca.out
      have hms66_1 := Ncb.out
      have hms66_3 := Ncd.out
      have hms66_4 := Nce.out
      refine skip_ (w1 := ?_) (by rfl) rfl ?_ ?_
      rotate_left
      ·
       go_simp
       rfl
      refine hK.out _ _ ⟨((cf_ Nac.out _).trans (((cf_ Nac.out _).trans (hH.1)))), ((cf_ Nac.out _).trans (((cf_ Nac.out _).trans (hH.2.1)))), ((cf_ Nec.out _).trans (((cf_ Nec.out _).trans (hH.2.2.1)))), ((cf_ Nec.out _).trans (((cf_ Nec.out _).trans (hH.2.2.2.1)))), ((cf_ Nec.out _).trans (((cf_ Nec.out _).trans (hH.2.2.2.2))))⟩ (fun hH => ?_)
      clear hK K
      refine one_ (i := 4) (N := none) #[true, true, true, true, true, false] rfl rfl (by kernel_rfl) (by decide) (fun K hK => ?_)
      have hs67 : w64.cell? ⟨gd, 0, none⟩ = some (.int .i64 0) := (blk_cell Bd_.out 0).trans rfl
      have hfs67 := blk_frozen Bd_.out 0
      have hns67_0 := Nad.out
      have hns67_1 := Nbd.out
      have hns67_2 := Ncd.out
      have hns67_4 := Ned.out
      have hms67_0 := Nda.out
      have hms67_1 := Ndb.out
      have hms67_2 := Ndc.out
      have hms67_4 := Nde.out
      have hs68 : w64.cell? ⟨gd, 1, none⟩ = some (.int .i64 0) := (blk_cell Bd_.out 1).trans rfl
      have hfs68 := blk_frozen Bd_.out 1
      have hns68_0 := Nad.out
      have hns68_1 := Nbd.out
      have hns68_2 := Ncd.out
      have hns68_4 := Ned.out
      have hms68_0 := Nda.out
      have hms68_1 := Ndb.out
      have hms68_2 := Ndc.out
      have hms68_4 := Nde.out
      have hs69 : w64.cell? ⟨gd, 2, none⟩ = some (.string (⟨#[]⟩ : ByteArray)) := (blk_cell Bd_.out 2).trans rfl
      have hfs69 := blk_frozen Bd_.out 2
      have hns69_0 := Nad.out
      have hns69_1 := Nbd.out
      have hns69_2 := Ncd.out
      have hns69_4 := Ned.out
      have hms69_0 := Nda.out
      have hms69_1 := Ndb.out
      have hms69_2 := Ndc.out
      have hms69_4 := Nde.out
      refine skip_ (w1 := ?_) (by rfl) rfl ?_ ?_
      rotate_left
      ·
       go_simp
       rfl
      refine hK.out _ _ ⟨((cf_ Nad.out _).trans (((cf_ Nad.out _).trans (((cf_ Nad.out _).trans (hH.1)))))), ((cf_ Nad.out _).trans (((cf_ Nad.out _).trans (((cf_ Nad.out _).trans (hH.2.1)))))), ((cf_ Ned.out _).trans (((cf_ Ned.out _).trans (((cf_ Ned.out _).trans (hH.2.2.1)))))), ((cf_ Ned.out _).trans (((cf_ Ned.out _).trans (((cf_ Ned.out _).trans (hH.2.2.2.1)))))), ((cf_ Ned.out _).trans (((cf_ Ned.out _).trans (((cf_ Ned.out _).trans (hH.2.2.2.2))))))⟩ (fun hH => ?_)
      clear hK K
      refine pure_ (i := 5) (N := some 8) (v := ?_) (a' := ?_) #[true, true, true, true, true, true] rfl rfl (by kernel_rfl) (fun _ _ _ h => h) (Or.inl ⟨by rfl, ?_⟩) ?_ ?_
      rotate_left
      ·
       intro w'
       go_simp
       with_reducible rfl
      rotate_left
      ·
       simp only [Act.put, List.setIfInBounds_toArray, List.set_cons_zero, List.set_cons_succ, i64_w, i32_w]
       rfl
      refine done_ (by kernel_rfl) ?_
      try go_wp2
      refine bodyPost_ret (results_list (rs := [.cell 6 64, .cell 7 46, .tmp 8]) rfl (by simp) (.cell gc 64 #[.int .i64 a1_0, .int .i64 (wrap64 (a1_1 + a2_1))] (0, 0) _ rfl (by (with_reducible repeat first | refine bN_ ?_ _ | refine bD_ ?_ | refine bA_ ?_ _); refine blk_far ?_ Ncd.out _; (with_reducible repeat first | refine bN_ ?_ _ | refine bD_ ?_ | refine bA_ ?_ _); refine blk_far ?_ Ncd.out _; (with_reducible repeat first | refine bN_ ?_ _ | refine bD_ ?_ | refine bA_ ?_ _); refine blk_far ?_ Ncd.out _; (with_reducible repeat first | refine bN_ ?_ _ | refine bD_ ?_ | refine bA_ ?_ _); refine blk_put (cs := #[.int .i64 a1_0, .int .i64 0]) ?_ 1 _ rfl; (with_reducible repeat first | refine bN_ ?_ _ | refine bD_ ?_ | refine bA_ ?_ _); refine blk_put (cs := #[.int .i64 0, .int .i64 0]) ?_ 0 _ rfl; (with_reducible repeat first | refine bN_ ?_ _ | refine bD_ ?_ | refine bA_ ?_ _); exact Bc_.out) Tryd.underlying64 rfl (by kernel_rfl) (.cell gd 46 #[.int .i64 0, .int .i64 0, .string (⟨#[]⟩ : ByteArray)] (0, 0) _ rfl (by (with_reducible repeat first | refine bN_ ?_ _ | refine bD_ ?_ | refine bA_ ?_ _); refine blk_put (cs := #[.int .i64 0, .int .i64 0, .string (⟨#[]⟩ : ByteArray)]) ?_ 2 _ rfl; (with_reducible repeat first | refine bN_ ?_ _ | refine bD_ ?_ | refine bA_ ?_ _); refine blk_put (cs := #[.int .i64 0, .int .i64 0, .string (⟨#[]⟩ : ByteArray)]) ?_ 1 _ rfl; (with_reducible repeat first | refine bN_ ?_ _ | refine bD_ ?_ | refine bA_ ?_ _); refine blk_put (cs := #[.int .i64 0, .int .i64 0, .string (⟨#[]⟩ : ByteArray)]) ?_ 0 _ rfl; (with_reducible repeat first | refine bN_ ?_ _ | refine bD_ ?_ | refine bA_ ?_ _); refine blk_far ?_ Ndc.out _; (with_reducible repeat first | refine bN_ ?_ _ | refine bD_ ?_ | refine bA_ ?_ _); refine blk_far ?_ Ndc.out _; (with_reducible repeat first | refine bN_ ?_ _ | refine bD_ ?_ | refine bA_ ?_ _); exact Bd_.out) Tryd.underlying46 rfl (by kernel_rfl) (.tmp .nil)))) rfl ?_
      exact ⟨by first | rfl | (simp [errW_none, errW_some] <;> rfl), by repeat (first | (with_reducible first | exact HB.out | apply below_alloc | apply pw_below_drewN | apply below_drew1 | refine below_set ?_ GE112.out | refine below_set ?_ GE113.out | refine below_set ?_ GE114.out | refine below_set ?_ GE115.out | refine below_set ?_ GE116.out) | exact HB.out)⟩
     ·
      rw [if_neg c53] at H
      have c53b0 : (a2_0 == 0) = false := beq_eq_false_iff_ne.mpr c53
      have c53b1 : (a2_0 != 0) = true := bne_iff_ne.mpr c53
      by_cases c70 : a2_0 = 1
      ·
       rw [if_pos c70] at H
       have c70b0 : (a2_0 == 1) = true := beq_iff_eq.mpr c70
       have c70b1 : (a2_0 != 1) = false := bne_eq_false_iff_eq.mpr c70
       clear c70
       by_cases c71 : a2_1 ≥ 0
       ·
        rw [if_pos c71] at H
        have c71b0 : decide (0 ≤ a2_1) = true := decide_eq_true c71
        clear c71
        simp only [Option.some.injEq, Prod.mk.injEq] at H
        obtain ⟨rfl, rfl, rfl, rfl, rfl, rfl⟩ := H
        have hnb72 := Nba.out
        have hnc72 := Nab.out
        have hnb73 := Nbc.out
        have hnc73 := Ncb.out
        have hnb74 := Nbd.out
        have hnc74 := Ndb.out
        have hnb75 := Nbe.out
        have hnc75 := Neb.out
        have hcz76_0 : wc.cell? ⟨gb, 0, none⟩ = some (.int .i64 a2_0) := (blk_cell Bb_.out 0).trans rfl
        have hcz76_1 : wc.cell? ⟨gb, 1, none⟩ = some (.int .i64 a2_1) := (blk_cell Bb_.out 1).trans rfl
        have hfz76_0 := blk_frozen Bb_.out 0
        have hfz76_1 := blk_frozen Bb_.out 1
        have hnb77 := Nac.out
        have hnc77 := Nca.out
        have hnb78 := Nad.out
        have hnc78 := Nda.out
        have hnb79 := Nae.out
        have hnc79 := Nea.out
        have hcz80_0 : wc.cell? ⟨ga, 0, none⟩ = some (.int .i64 a1_0) := (blk_cell Ba_.out 0).trans rfl
        have hcz80_1 : wc.cell? ⟨ga, 1, none⟩ = some (.int .i64 a1_1) := (blk_cell Ba_.out 1).trans rfl
        have hfz80_0 := blk_frozen Ba_.out 0
        have hfz80_1 := blk_frozen Ba_.out 1
        try go_wp2
        have m0 : Aside0 ((wc.setCell ⟨ga, 1, none⟩ (.int .i64 (wrap64 (a1_0 + a2_1)))).heap[ga]? = some (.cells #[.int .i64 a1_0, .int .i64 (wrap64 (a1_0 + a2_1))] 64 (0, 0))) := ⟨by (with_reducible repeat first | refine bN_ ?_ _ | refine bD_ ?_ | refine bA_ ?_ _); refine blk_put (cs := #[.int .i64 a1_0, .int .i64 a1_1]) ?_ 1 _ rfl; (with_reducible repeat first | refine bN_ ?_ _ | refine bD_ ?_ | refine bA_ ?_ _); exact Ba_.out⟩
        have m1 : Aside0 ((wc.setCell ⟨ga, 1, none⟩ (.int .i64 (wrap64 (a1_0 + a2_1)))).heap[gb]? = some (.cells #[.int .i64 a2_0, .int .i64 a2_1] 44 (0, 0))) := ⟨by (with_reducible repeat first | refine bN_ ?_ _ | refine bD_ ?_ | refine bA_ ?_ _); refine blk_far ?_ Nba.out _; (with_reducible repeat first | refine bN_ ?_ _ | refine bD_ ?_ | refine bA_ ?_ _); exact Bb_.out⟩
        have m2 : Aside0 ((wc.setCell ⟨ga, 1, none⟩ (.int .i64 (wrap64 (a1_0 + a2_1)))).heap[gc]? = some (.cells #[.int .i64 0, .int .i64 0] 64 (0, 0))) := ⟨by (with_reducible repeat first | refine bN_ ?_ _ | refine bD_ ?_ | refine bA_ ?_ _); refine blk_far ?_ Nca.out _; (with_reducible repeat first | refine bN_ ?_ _ | refine bD_ ?_ | refine bA_ ?_ _); exact Bc_.out⟩
        have m3 : Aside0 ((wc.setCell ⟨ga, 1, none⟩ (.int .i64 (wrap64 (a1_0 + a2_1)))).heap[gd]? = some (.cells #[.int .i64 0, .int .i64 0, .string (⟨#[]⟩ : ByteArray)] 46 (0, 0))) := ⟨by (with_reducible repeat first | refine bN_ ?_ _ | refine bD_ ?_ | refine bA_ ?_ _); refine blk_far ?_ Nda.out _; (with_reducible repeat first | refine bN_ ?_ _ | refine bD_ ?_ | refine bA_ ?_ _); exact Bd_.out⟩
        have m4 : Aside0 ((wc.setCell ⟨ga, 1, none⟩ (.int .i64 (wrap64 (a1_0 + a2_1)))).heap[ge]? = some (.cells #[.int .i64 0, .int .i64 0, .string (⟨#[]⟩ : ByteArray)] 46 (0, 0))) := ⟨by (with_reducible repeat first | refine bN_ ?_ _ | refine bD_ ?_ | refine bA_ ?_ _); refine blk_far ?_ Nea.out _; (with_reducible repeat first | refine bN_ ?_ _ | refine bD_ ?_ | refine bA_ ?_ _); exact Be_.out⟩
        have m5 : Aside0 (Below w.heap.size w (wc.setCell ⟨ga, 1, none⟩ (.int .i64 (wrap64 (a1_0 + a2_1))))) := ⟨by repeat (first | (with_reducible first | exact HB.out | apply below_alloc | apply pw_below_drewN | apply below_drew1 | refine below_set ?_ GE112.out | refine below_set ?_ GE113.out | refine below_set ?_ GE114.out | refine below_set ?_ GE115.out | refine below_set ?_ GE116.out) | exact HB.out)⟩
        (try clear Ba_)
        (try clear Bb_)
        (try clear Bc_)
        (try clear Bd_)
        (try clear Be_)
        (try clear HB)
        generalize (wc.setCell ⟨ga, 1, none⟩ (.int .i64 (wrap64 (a1_0 + a2_1)))) = w81 at m0 m1 m2 m3 m4 m5 ⊢
        have Ba_ := m0
        have Bb_ := m1
        have Bc_ := m2
        have Bd_ := m3
        have Be_ := m4
        have HB := m5
        clear m0 m1 m2 m3 m4 m5
        have m0 := Aside0.mk (blk_drew Ba_.out)
        have m1 := Aside0.mk (blk_drew Bb_.out)
        have m2 := Aside0.mk (blk_drew Bc_.out)
        have m3 := Aside0.mk (blk_drew Bd_.out)
        have m4 := Aside0.mk (blk_drew Be_.out)
        have m5 := Aside0.mk (below_drew1 HB.out)
        clear Ba_
        clear Bb_
        clear Bc_
        clear Bd_
        clear Be_
        clear HB
        have Ba_ := m0
        have Bb_ := m1
        have Bc_ := m2
        have Bd_ := m3
        have Be_ := m4
        have HB := m5
        clear m0 m1 m2 m3 m4 m5
        refine start_ (n := 6) (S := fun w' => w'.cell? ⟨ga, 0, none⟩ = some (.int .i64 a1_0) ∧ w'.cell? ⟨ga, 1, none⟩ = some (.int .i64 (wrap64 (a1_0 + a2_1))) ∧ w'.cell? ⟨ge, 0, none⟩ = some (.int .i64 0) ∧ w'.cell? ⟨ge, 1, none⟩ = some (.int .i64 0) ∧ w'.cell? ⟨ge, 2, none⟩ = some (.string (⟨#[]⟩ : ByteArray))) (ds := []) #[false, false, false, false, false, false] (by kernel_rfl) rfl rfl ⟨(blk_cell Ba_.out 0).trans rfl, (blk_cell Ba_.out 1).trans rfl, (blk_cell Be_.out 0).trans rfl, (blk_cell Be_.out 1).trans rfl, (blk_cell Be_.out 2).trans rfl⟩ (fun hH => ?_)
        generalize w81.drew = w82 at Ba_ Bb_ Bc_ Bd_ Be_ HB hH ⊢
        refine pure_ (i := 2) (N := some 79) (v := ?_) (a' := ?_) #[false, false, true, false, false, false] rfl rfl (by kernel_rfl) (fun _ _ _ h => h) (Or.inl ⟨by rfl, ?_⟩) ?_ ?_
        rotate_left
        ·
         intro w'
         go_simp
         with_reducible rfl
        rotate_left
        ·
         simp only [Act.put, List.setIfInBounds_toArray, List.set_cons_zero, List.set_cons_succ, i64_w, i32_w]
         rfl
        refine take_ (i := 0) (N := some 77) (v := ?_) (a' := ?_) #[true, false, true, false, false, false] rfl rfl (by kernel_rfl) (fun _ _ _ h => h) (Or.inl ⟨by rfl, ?_⟩) hH ?_ ?_
        rotate_left
        ·
         rintro w' ⟨s0, s1, s2, s3, s4⟩
         go_simp
         with_reducible rfl
        rotate_left
        ·
         simp only [Act.put, List.setIfInBounds_toArray, List.set_cons_zero, List.set_cons_succ, i64_w, i32_w]
         rfl
        refine take_ (i := 1) (N := some 78) (v := ?_) (a' := ?_) #[true, true, true, false, false, false] rfl rfl (by kernel_rfl) (fun _ _ _ h => h) (Or.inl ⟨by rfl, ?_⟩) hH ?_ ?_
        rotate_left
        ·
         rintro w' ⟨s0, s1, s2, s3, s4⟩
         go_simp
         with_reducible rfl
        rotate_left
        ·
         simp only [Act.put, List.setIfInBounds_toArray, List.set_cons_zero, List.set_cons_succ, i64_w, i32_w]
         rfl
        refine one_ (i := 3) (N := none) #[true, true, true, true, false, false] rfl rfl (by kernel_rfl) (by decide) (fun K hK => ?_)
        have hs83 : w82.cell? ⟨gc, 0, none⟩ = some (.int .i64 0) := (blk_cell Bc_.out 0).trans rfl
        have hfs83 := blk_frozen Bc_.out 0
        have hns83_0 := Nac.out
        have hns83_1 := Nbc.out
        have hns83_3 := Ndc.out
        have hns83_4 := Nec.out
        have hms83_0 := Nca.out
        have hms83_1 := Ncb.out
        have hms83_3 := Ncd.out
        have hms83_4 := Nce.out
        have hs84 : w82.cell? ⟨gc, 1, none⟩ = some (.int .i64 0) := (blk_cell Bc_.out 1).trans rfl
        have hfs84 := blk_frozen Bc_.out 1
        have hns84_0 := Nac.out
        have hns84_1 := Nbc.out
        have hns84_3 := Ndc.out
        have hns84_4 := Nec.out
        have hms84_0 := Nca.out
        have hms84_1 := Ncb.out
        have hms84_3 := Ncd.out
        have hms84_4 := Nce.out
        refine skip_ (w1 := ?_) (by rfl) rfl ?_ ?_
        rotate_left
        ·
         go_simp
         rfl
        refine hK.out _ _ ⟨((cf_ Nac.out _).trans (((cf_ Nac.out _).trans (hH.1)))), ((cf_ Nac.out _).trans (((cf_ Nac.out _).trans (hH.2.1)))), ((cf_ Nec.out _).trans (((cf_ Nec.out _).trans (hH.2.2.1)))), ((cf_ Nec.out _).trans (((cf_ Nec.out _).trans (hH.2.2.2.1)))), ((cf_ Nec.out _).trans (((cf_ Nec.out _).trans (hH.2.2.2.2))))⟩ (fun hH => ?_)
        clear hK K
        refine one_ (i := 4) (N := none) #[true, true, true, true, true, false] rfl rfl (by kernel_rfl) (by decide) (fun K hK => ?_)
        have hs85 : w82.cell? ⟨gd, 0, none⟩ = some (.int .i64 0) := (blk_cell Bd_.out 0).trans rfl
        have hfs85 := blk_frozen Bd_.out 0
        have hns85_0 := Nad.out
        have hns85_1 := Nbd.out
        have hns85_2 := Ncd.out
        have hns85_4 := Ned.out
        have hms85_0 := Nda.out
        have hms85_1 := Ndb.out
        have hms85_2 := Ndc.out
        have hms85_4 := Nde.out
        have hs86 : w82.cell? ⟨gd, 1, none⟩ = some (.int .i64 0) := (blk_cell Bd_.out 1).trans rfl
        have hfs86 := blk_frozen Bd_.out 1
        have hns86_0 := Nad.out
        have hns86_1 := Nbd.out
        have hns86_2 := Ncd.out
        have hns86_4 := Ned.out
        have hms86_0 := Nda.out
        have hms86_1 := Ndb.out
        have hms86_2 := Ndc.out
        have hms86_4 := Nde.out
        have hs87 : w82.cell? ⟨gd, 2, none⟩ = some (.string (⟨#[]⟩ : ByteArray)) := (blk_cell Bd_.out 2).trans rfl
        have hfs87 := blk_frozen Bd_.out 2
        have hns87_0 := Nad.out
        have hns87_1 := Nbd.out
        have hns87_2 := Ncd.out
        have hns87_4 := Ned.out
        have hms87_0 := Nda.out
        have hms87_1 := Ndb.out
        have hms87_2 := Ndc.out
        have hms87_4 := Nde.out
        refine skip_ (w1 := ?_) (by rfl) rfl ?_ ?_
        rotate_left
        ·
         go_simp
         rfl
        refine hK.out _ _ ⟨((cf_ Nad.out _).trans (((cf_ Nad.out _).trans (((cf_ Nad.out _).trans (hH.1)))))), ((cf_ Nad.out _).trans (((cf_ Nad.out _).trans (((cf_ Nad.out _).trans (hH.2.1)))))), ((cf_ Ned.out _).trans (((cf_ Ned.out _).trans (((cf_ Ned.out _).trans (hH.2.2.1)))))), ((cf_ Ned.out _).trans (((cf_ Ned.out _).trans (((cf_ Ned.out _).trans (hH.2.2.2.1)))))), ((cf_ Ned.out _).trans (((cf_ Ned.out _).trans (((cf_ Ned.out _).trans (hH.2.2.2.2))))))⟩ (fun hH => ?_)
        clear hK K
        refine pure_ (i := 5) (N := some 8) (v := ?_) (a' := ?_) #[true, true, true, true, true, true] rfl rfl (by kernel_rfl) (fun _ _ _ h => h) (Or.inl ⟨by rfl, ?_⟩) ?_ ?_
        rotate_left
        ·
         intro w'
         go_simp
         with_reducible rfl
        rotate_left
        ·
         simp only [Act.put, List.setIfInBounds_toArray, List.set_cons_zero, List.set_cons_succ, i64_w, i32_w]
         rfl
        refine done_ (by kernel_rfl) ?_
        try go_wp2
        refine bodyPost_ret (results_list (rs := [.cell 6 64, .cell 7 46, .tmp 8]) rfl (by simp) (.cell gc 64 #[.int .i64 a1_0, .int .i64 (wrap64 (a1_0 + a2_1))] (0, 0) _ rfl (by (with_reducible repeat first | refine bN_ ?_ _ | refine bD_ ?_ | refine bA_ ?_ _); refine blk_far ?_ Ncd.out _; (with_reducible repeat first | refine bN_ ?_ _ | refine bD_ ?_ | refine bA_ ?_ _); refine blk_far ?_ Ncd.out _; (with_reducible repeat first | refine bN_ ?_ _ | refine bD_ ?_ | refine bA_ ?_ _); refine blk_far ?_ Ncd.out _; (with_reducible repeat first | refine bN_ ?_ _ | refine bD_ ?_ | refine bA_ ?_ _); refine blk_put (cs := #[.int .i64 a1_0, .int .i64 0]) ?_ 1 _ rfl; (with_reducible repeat first | refine bN_ ?_ _ | refine bD_ ?_ | refine bA_ ?_ _); refine blk_put (cs := #[.int .i64 0, .int .i64 0]) ?_ 0 _ rfl; (with_reducible repeat first | refine bN_ ?_ _ | refine bD_ ?_ | refine bA_ ?_ _); exact Bc_.out) Tryd.underlying64 rfl (by kernel_rfl) (.cell gd 46 #[.int .i64 0, .int .i64 0, .string (⟨#[]⟩ : ByteArray)] (0, 0) _ rfl (by (with_reducible repeat first | refine bN_ ?_ _ | refine bD_ ?_ | refine bA_ ?_ _); refine blk_put (cs := #[.int .i64 0, .int .i64 0, .string (⟨#[]⟩ : ByteArray)]) ?_ 2 _ rfl; (with_reducible repeat first | refine bN_ ?_ _ | refine bD_ ?_ | refine bA_ ?_ _); refine blk_put (cs := #[.int .i64 0, .int .i64 0, .string (⟨#[]⟩ : ByteArray)]) ?_ 1 _ rfl; (with_reducible repeat first | refine bN_ ?_ _ | refine bD_ ?_ | refine bA_ ?_ _); refine blk_put (cs := #[.int .i64 0, .int .i64 0, .string (⟨#[]⟩ : ByteArray)]) ?_ 0 _ rfl; (with_reducible repeat first | refine bN_ ?_ _ | refine bD_ ?_ | refine bA_ ?_ _); refine blk_far ?_ Ndc.out _; (with_reducible repeat first | refine bN_ ?_ _ | refine bD_ ?_ | refine bA_ ?_ _); refine blk_far ?_ Ndc.out _; (with_reducible repeat first | refine bN_ ?_ _ | refine bD_ ?_ | refine bA_ ?_ _); exact Bd_.out) Tryd.underlying46 rfl (by kernel_rfl) (.tmp .nil)))) rfl ?_
        exact ⟨by first | rfl | (simp [errW_none, errW_some] <;> rfl), by repeat (first | (with_reducible first | exact HB.out | apply below_alloc | apply pw_below_drewN | apply below_drew1 | refine below_set ?_ GE112.out | refine below_set ?_ GE113.out | refine below_set ?_ GE114.out | refine below_set ?_ GE115.out | refine below_set ?_ GE116.out) | exact HB.out)⟩
       ·
        rw [if_neg c71] at H
        have c71b0 : decide (0 ≤ a2_1) = false := decide_eq_false c71
        clear c71
        simp only [Option.some.injEq, Prod.mk.injEq] at H
        obtain ⟨rfl, rfl, rfl, rfl, rfl, rfl⟩ := H
        have hnb88 := Nba.out
        have hnc88 := Nab.out
        have hnb89 := Nbc.out
        have hnc89 := Ncb.out
        have hnb90 := Nbd.out
        have hnc90 := Ndb.out
        have hnb91 := Nbe.out
        have hnc91 := Neb.out
        have hcz92_0 : wc.cell? ⟨gb, 0, none⟩ = some (.int .i64 a2_0) := (blk_cell Bb_.out 0).trans rfl
        have hcz92_1 : wc.cell? ⟨gb, 1, none⟩ = some (.int .i64 a2_1) := (blk_cell Bb_.out 1).trans rfl
        have hfz92_0 := blk_frozen Bb_.out 0
        have hfz92_1 := blk_frozen Bb_.out 1
        have hnb93 := Nac.out
        have hnc93 := Nca.out
        have hnb94 := Nad.out
        have hnc94 := Nda.out
        have hnb95 := Nae.out
        have hnc95 := Nea.out
        have hcz96_0 : wc.cell? ⟨ga, 0, none⟩ = some (.int .i64 a1_0) := (blk_cell Ba_.out 0).trans rfl
        have hcz96_1 : wc.cell? ⟨ga, 1, none⟩ = some (.int .i64 a1_1) := (blk_cell Ba_.out 1).trans rfl
        have hfz96_0 := blk_frozen Ba_.out 0
        have hfz96_1 := blk_frozen Ba_.out 1
        try go_wp2
        have m0 : Aside0 ((wc.setCell ⟨ga, 1, none⟩ (.int .i64 (wrap64 (a1_0 + a2_1)))).heap[ga]? = some (.cells #[.int .i64 a1_0, .int .i64 (wrap64 (a1_0 + a2_1))] 64 (0, 0))) := ⟨by (with_reducible repeat first | refine bN_ ?_ _ | refine bD_ ?_ | refine bA_ ?_ _); refine blk_put (cs := #[.int .i64 a1_0, .int .i64 a1_1]) ?_ 1 _ rfl; (with_reducible repeat first | refine bN_ ?_ _ | refine bD_ ?_ | refine bA_ ?_ _); exact Ba_.out⟩
        have m1 : Aside0 ((wc.setCell ⟨ga, 1, none⟩ (.int .i64 (wrap64 (a1_0 + a2_1)))).heap[gb]? = some (.cells #[.int .i64 a2_0, .int .i64 a2_1] 44 (0, 0))) := ⟨by (with_reducible repeat first | refine bN_ ?_ _ | refine bD_ ?_ | refine bA_ ?_ _); refine blk_far ?_ Nba.out _; (with_reducible repeat first | refine bN_ ?_ _ | refine bD_ ?_ | refine bA_ ?_ _); exact Bb_.out⟩
        have m2 : Aside0 ((wc.setCell ⟨ga, 1, none⟩ (.int .i64 (wrap64 (a1_0 + a2_1)))).heap[gc]? = some (.cells #[.int .i64 0, .int .i64 0] 64 (0, 0))) := ⟨by (with_reducible repeat first | refine bN_ ?_ _ | refine bD_ ?_ | refine bA_ ?_ _); refine blk_far ?_ Nca.out _; (with_reducible repeat first | refine bN_ ?_ _ | refine bD_ ?_ | refine bA_ ?_ _); exact Bc_.out⟩
        have m3 : Aside0 ((wc.setCell ⟨ga, 1, none⟩ (.int .i64 (wrap64 (a1_0 + a2_1)))).heap[gd]? = some (.cells #[.int .i64 0, .int .i64 0, .string (⟨#[]⟩ : ByteArray)] 46 (0, 0))) := ⟨by (with_reducible repeat first | refine bN_ ?_ _ | refine bD_ ?_ | refine bA_ ?_ _); refine blk_far ?_ Nda.out _; (with_reducible repeat first | refine bN_ ?_ _ | refine bD_ ?_ | refine bA_ ?_ _); exact Bd_.out⟩
        have m4 : Aside0 ((wc.setCell ⟨ga, 1, none⟩ (.int .i64 (wrap64 (a1_0 + a2_1)))).heap[ge]? = some (.cells #[.int .i64 0, .int .i64 0, .string (⟨#[]⟩ : ByteArray)] 46 (0, 0))) := ⟨by (with_reducible repeat first | refine bN_ ?_ _ | refine bD_ ?_ | refine bA_ ?_ _); refine blk_far ?_ Nea.out _; (with_reducible repeat first | refine bN_ ?_ _ | refine bD_ ?_ | refine bA_ ?_ _); exact Be_.out⟩
        have m5 : Aside0 (Below w.heap.size w (wc.setCell ⟨ga, 1, none⟩ (.int .i64 (wrap64 (a1_0 + a2_1))))) := ⟨by repeat (first | (with_reducible first | exact HB.out | apply below_alloc | apply pw_below_drewN | apply below_drew1 | refine below_set ?_ GE112.out | refine below_set ?_ GE113.out | refine below_set ?_ GE114.out | refine below_set ?_ GE115.out | refine below_set ?_ GE116.out) | exact HB.out)⟩
        (try clear Ba_)
        (try clear Bb_)
        (try clear Bc_)
        (try clear Bd_)
        (try clear Be_)
        (try clear HB)
        generalize (wc.setCell ⟨ga, 1, none⟩ (.int .i64 (wrap64 (a1_0 + a2_1)))) = w97 at m0 m1 m2 m3 m4 m5 ⊢
        have Ba_ := m0
        have Bb_ := m1
        have Bc_ := m2
        have Bd_ := m3
        have Be_ := m4
        have HB := m5
        clear m0 m1 m2 m3 m4 m5
        have m0 := Aside0.mk (blk_drew Ba_.out)
        have m1 := Aside0.mk (blk_drew Bb_.out)
        have m2 := Aside0.mk (blk_drew Bc_.out)
        have m3 := Aside0.mk (blk_drew Bd_.out)
        have m4 := Aside0.mk (blk_drew Be_.out)
        have m5 := Aside0.mk (below_drew1 HB.out)
        clear Ba_
        clear Bb_
        clear Bc_
        clear Bd_
        clear Be_
        clear HB
        have Ba_ := m0
        have Bb_ := m1
        have Bc_ := m2
        have Bd_ := m3
        have Be_ := m4
        have HB := m5
        clear m0 m1 m2 m3 m4 m5
        refine start_ (n := 6) (S := fun w' => w'.cell? ⟨ga, 0, none⟩ = some (.int .i64 a1_0) ∧ w'.cell? ⟨ga, 1, none⟩ = some (.int .i64 (wrap64 (a1_0 + a2_1))) ∧ w'.cell? ⟨ge, 0, none⟩ = some (.int .i64 0) ∧ w'.cell? ⟨ge, 1, none⟩ = some (.int .i64 0) ∧ w'.cell? ⟨ge, 2, none⟩ = some (.string (⟨#[]⟩ : ByteArray))) (ds := []) #[false, false, false, false, false, false] (by kernel_rfl) rfl rfl ⟨(blk_cell Ba_.out 0).trans rfl, (blk_cell Ba_.out 1).trans rfl, (blk_cell Be_.out 0).trans rfl, (blk_cell Be_.out 1).trans rfl, (blk_cell Be_.out 2).trans rfl⟩ (fun hH => ?_)
        generalize w97.drew = w98 at Ba_ Bb_ Bc_ Bd_ Be_ HB hH ⊢
        refine pure_ (i := 2) (N := some 79) (v := ?_) (a' := ?_) #[false, false, true, false, false, false] rfl rfl (by kernel_rfl) (fun _ _ _ h => h) (Or.inl ⟨by rfl, ?_⟩) ?_ ?_
        rotate_left
        ·
         intro w'
         go_simp
         with_reducible rfl
        rotate_left
        ·
         simp only [Act.put, List.setIfInBounds_toArray, List.set_cons_zero, List.set_cons_succ, i64_w, i32_w]
         rfl
        refine take_ (i := 0) (N := some 77) (v := ?_) (a' := ?_) #[true, false, true, false, false, false] rfl rfl (by kernel_rfl) (fun _ _ _ h => h) (Or.inl ⟨by rfl, ?_⟩) hH ?_ ?_
        rotate_left
        ·
         rintro w' ⟨s0, s1, s2, s3, s4⟩
         go_simp
         with_reducible rfl
        rotate_left
        ·
         simp only [Act.put, List.setIfInBounds_toArray, List.set_cons_zero, List.set_cons_succ, i64_w, i32_w]
         rfl
        refine take_ (i := 1) (N := some 78) (v := ?_) (a' := ?_) #[true, true, true, false, false, false] rfl rfl (by kernel_rfl) (fun _ _ _ h => h) (Or.inl ⟨by rfl, ?_⟩) hH ?_ ?_
        rotate_left
        ·
         rintro w' ⟨s0, s1, s2, s3, s4⟩
         go_simp
         with_reducible rfl
        rotate_left
        ·
         simp only [Act.put, List.setIfInBounds_toArray, List.set_cons_zero, List.set_cons_succ, i64_w, i32_w]
         rfl
        refine one_ (i := 3) (N := none) #[true, true, true, true, false, false] rfl rfl (by kernel_rfl) (by decide) (fun K hK => ?_)
        have hs99 : w98.cell? ⟨gc, 0, none⟩ = some (.int .i64 0) := (blk_cell Bc_.out 0).trans rfl
        have hfs99 := blk_frozen Bc_.out 0
        have hns99_0 := Nac.out
        have hns99_1 := Nbc.out
        have hns99_3 := Ndc.out
        have hns99_4 := Nec.out
        have hms99_0 := Nca.out
        have hms99_1 := Ncb.out
        have hms99_3 := Ncd.out
        have hms99_4 := Nce.out
        have hs100 : w98.cell? ⟨gc, 1, none⟩ = some (.int .i64 0) := (blk_cell Bc_.out 1).trans rfl
        have hfs100 := blk_frozen Bc_.out 1
        have hns100_0 := Nac.out
        have hns100_1 := Nbc.out
        have hns100_3 := Ndc.out
        have hns100_4 := Nec.out
        have hms100_0 := Nca.out
        have hms100_1 := Ncb.out
        have hms100_3 := Ncd.out
        have hms100_4 := Nce.out
        refine skip_ (w1 := ?_) (by rfl) rfl ?_ ?_
        rotate_left
        ·
         go_simp
         rfl
        refine hK.out _ _ ⟨((cf_ Nac.out _).trans (((cf_ Nac.out _).trans (hH.1)))), ((cf_ Nac.out _).trans (((cf_ Nac.out _).trans (hH.2.1)))), ((cf_ Nec.out _).trans (((cf_ Nec.out _).trans (hH.2.2.1)))), ((cf_ Nec.out _).trans (((cf_ Nec.out _).trans (hH.2.2.2.1)))), ((cf_ Nec.out _).trans (((cf_ Nec.out _).trans (hH.2.2.2.2))))⟩ (fun hH => ?_)
        clear hK K
        refine one_ (i := 4) (N := none) #[true, true, true, true, true, false] rfl rfl (by kernel_rfl) (by decide) (fun K hK => ?_)
        have hs101 : w98.cell? ⟨gd, 0, none⟩ = some (.int .i64 0) := (blk_cell Bd_.out 0).trans rfl
        have hfs101 := blk_frozen Bd_.out 0
        have hns101_0 := Nad.out
        have hns101_1 := Nbd.out
        have hns101_2 := Ncd.out
        have hns101_4 := Ned.out
        have hms101_0 := Nda.out
        have hms101_1 := Ndb.out
        have hms101_2 := Ndc.out
        have hms101_4 := Nde.out
        have hs102 : w98.cell? ⟨gd, 1, none⟩ = some (.int .i64 0) := (blk_cell Bd_.out 1).trans rfl
        have hfs102 := blk_frozen Bd_.out 1
        have hns102_0 := Nad.out
        have hns102_1 := Nbd.out
        have hns102_2 := Ncd.out
        have hns102_4 := Ned.out
        have hms102_0 := Nda.out
        have hms102_1 := Ndb.out
        have hms102_2 := Ndc.out
        have hms102_4 := Nde.out
        have hs103 : w98.cell? ⟨gd, 2, none⟩ = some (.string (⟨#[]⟩ : ByteArray)) := (blk_cell Bd_.out 2).trans rfl
        have hfs103 := blk_frozen Bd_.out 2
        have hns103_0 := Nad.out
        have hns103_1 := Nbd.out
        have hns103_2 := Ncd.out
        have hns103_4 := Ned.out
        have hms103_0 := Nda.out
        have hms103_1 := Ndb.out
        have hms103_2 := Ndc.out
        have hms103_4 := Nde.out
        refine skip_ (w1 := ?_) (by rfl) rfl ?_ ?_
        rotate_left
        ·
         go_simp
         rfl
        refine hK.out _ _ ⟨((cf_ Nad.out _).trans (((cf_ Nad.out _).trans (((cf_ Nad.out _).trans (hH.1)))))), ((cf_ Nad.out _).trans (((cf_ Nad.out _).trans (((cf_ Nad.out _).trans (hH.2.1)))))), ((cf_ Ned.out _).trans (((cf_ Ned.out _).trans (((cf_ Ned.out _).trans (hH.2.2.1)))))), ((cf_ Ned.out _).trans (((cf_ Ned.out _).trans (((cf_ Ned.out _).trans (hH.2.2.2.1)))))), ((cf_ Ned.out _).trans (((cf_ Ned.out _).trans (((cf_ Ned.out _).trans (hH.2.2.2.2))))))⟩ (fun hH => ?_)
        clear hK K
        refine pure_ (i := 5) (N := some 8) (v := ?_) (a' := ?_) #[true, true, true, true, true, true] rfl rfl (by kernel_rfl) (fun _ _ _ h => h) (Or.inl ⟨by rfl, ?_⟩) ?_ ?_
        rotate_left
        ·
         intro w'
         go_simp
         with_reducible rfl
        rotate_left
        ·
         simp only [Act.put, List.setIfInBounds_toArray, List.set_cons_zero, List.set_cons_succ, i64_w, i32_w]
         rfl
        refine done_ (by kernel_rfl) ?_
        try go_wp2
        refine bodyPost_ret (results_list (rs := [.cell 6 64, .cell 7 46, .tmp 8]) rfl (by simp) (.cell gc 64 #[.int .i64 a1_0, .int .i64 (wrap64 (a1_0 + a2_1))] (0, 0) _ rfl (by (with_reducible repeat first | refine bN_ ?_ _ | refine bD_ ?_ | refine bA_ ?_ _); refine blk_far ?_ Ncd.out _; (with_reducible repeat first | refine bN_ ?_ _ | refine bD_ ?_ | refine bA_ ?_ _); refine blk_far ?_ Ncd.out _; (with_reducible repeat first | refine bN_ ?_ _ | refine bD_ ?_ | refine bA_ ?_ _); refine blk_far ?_ Ncd.out _; (with_reducible repeat first | refine bN_ ?_ _ | refine bD_ ?_ | refine bA_ ?_ _); refine blk_put (cs := #[.int .i64 a1_0, .int .i64 0]) ?_ 1 _ rfl; (with_reducible repeat first | refine bN_ ?_ _ | refine bD_ ?_ | refine bA_ ?_ _); refine blk_put (cs := #[.int .i64 0, .int .i64 0]) ?_ 0 _ rfl; (with_reducible repeat first | refine bN_ ?_ _ | refine bD_ ?_ | refine bA_ ?_ _); exact Bc_.out) Tryd.underlying64 rfl (by kernel_rfl) (.cell gd 46 #[.int .i64 0, .int .i64 0, .string (⟨#[]⟩ : ByteArray)] (0, 0) _ rfl (by (with_reducible repeat first | refine bN_ ?_ _ | refine bD_ ?_ | refine bA_ ?_ _); refine blk_put (cs := #[.int .i64 0, .int .i64 0, .string (⟨#[]⟩ : ByteArray)]) ?_ 2 _ rfl; (with_reducible repeat first | refine bN_ ?_ _ | refine bD_ ?_ | refine bA_ ?_ _); refine blk_put (cs := #[.int .i64 0, .int .i64 0, .string (⟨#[]⟩ : ByteArray)]) ?_ 1 _ rfl; (with_reducible repeat first | refine bN_ ?_ _ | refine bD_ ?_ | refine bA_ ?_ _); refine blk_put (cs := #[.int .i64 0, .int .i64 0, .string (⟨#[]⟩ : ByteArray)]) ?_ 0 _ rfl; (with_reducible repeat first | refine bN_ ?_ _ | refine bD_ ?_ | refine bA_ ?_ _); refine blk_far ?_ Ndc.out _; (with_reducible repeat first | refine bN_ ?_ _ | refine bD_ ?_ | refine bA_ ?_ _); refine blk_far ?_ Ndc.out _; (with_reducible repeat first | refine bN_ ?_ _ | refine bD_ ?_ | refine bA_ ?_ _); exact Bd_.out) Tryd.underlying46 rfl (by kernel_rfl) (.tmp .nil)))) rfl ?_
        exact ⟨by first | rfl | (simp [errW_none, errW_some] <;> rfl), by repeat (first | (with_reducible first | exact HB.out | apply below_alloc | apply pw_below_drewN | apply below_drew1 | refine below_set ?_ GE112.out | refine below_set ?_ GE113.out | refine below_set ?_ GE114.out | refine below_set ?_ GE115.out | refine below_set ?_ GE116.out) | exact HB.out)⟩
      ·
       rw [if_neg c70] at H
       have c70b0 : (a2_0 == 1) = false := beq_eq_false_iff_ne.mpr c70
       have c70b1 : (a2_0 != 1) = true := bne_iff_ne.mpr c70
       by_cases c104 : a2_0 = 2
       ·
        rw [if_pos c104] at H
        have c104b0 : (a2_0 == 2) = true := beq_iff_eq.mpr c104
        have c104b1 : (a2_0 != 2) = false := bne_eq_false_iff_eq.mpr c104
        clear c104
        by_cases c105 : 0 ≤ a1_0
        ·
         rw [if_pos c105] at H
         have c105b0 := eq_true c105
         have c105b1 : decide (0 ≤ a1_0) = true := decide_eq_true c105
         clear c105
         by_cases c106 : a1_0 ≤ a1_1
         ·
          rw [if_pos c106] at H
          have c106b0 := eq_true c106
          have c106b1 : decide (a1_0 ≤ a1_1) = true := decide_eq_true c106
          clear c106
          by_cases c107 : a1_1 ≤ (l0.length : Int)
          ·
           rw [if_pos c107] at H
           have c107b0 := eq_true c107
           have c107b1 : decide (a1_1 ≤ (l0.length : Int)) = true := decide_eq_true c107
           clear c107
           simp only [Option.some.injEq, Prod.mk.injEq] at H
           obtain ⟨rfl, rfl, rfl, rfl, rfl, rfl⟩ := H
           have hnb108 := Nba.out
           have hnc108 := Nab.out
           have hnb109 := Nbc.out
           have hnc109 := Ncb.out
           have hnb110 := Nbd.out
           have hnc110 := Ndb.out
           have hnb111 := Nbe.out
           have hnc111 := Neb.out
           have hcz112_0 : wc.cell? ⟨gb, 0, none⟩ = some (.int .i64 a2_0) := (blk_cell Bb_.out 0).trans rfl
           have hcz112_1 : wc.cell? ⟨gb, 1, none⟩ = some (.int .i64 a2_1) := (blk_cell Bb_.out 1).trans rfl
           have hfz112_0 := blk_frozen Bb_.out 0
           have hfz112_1 := blk_frozen Bb_.out 1
           have hnb113 := Nac.out
           have hnc113 := Nca.out
           have hnb114 := Nad.out
           have hnc114 := Nda.out
           have hnb115 := Nae.out
           have hnc115 := Nea.out
           have hcz116_0 : wc.cell? ⟨ga, 0, none⟩ = some (.int .i64 a1_0) := (blk_cell Ba_.out 0).trans rfl
           have hcz116_1 : wc.cell? ⟨ga, 1, none⟩ = some (.int .i64 a1_1) := (blk_cell Ba_.out 1).trans rfl
           have hfz116_0 := blk_frozen Ba_.out 0
           have hfz116_1 := blk_frozen Ba_.out 1
           obtain ⟨i0117, hi0117, _, hsz117, _⟩ := info_parts info5
           obtain ⟨A117, hcut117, hA117, hC117⟩ := print_mid_of (P := Tryd.prog) (Value.int .u8) 0 22 5 .i64 .i64 Tryd.underlying22 hi0117 hsz117 A0 c0 l0 a1_0 a1_1 (of_decide_eq_true (by first | (with_reducible assumption) | assumption)) (by first | omega | exact of_decide_eq_true (by first | (with_reducible assumption) | assumption)) (of_decide_eq_true (by first | (with_reducible assumption) | assumption)) HC0.out
           have HR117 := Aside0.mk (Kd.C_of_reads (h1 := fun _ => rfl) (hA117 _ (Kd.reads_of_C HR0.out)))
           have HC117 := Aside0.mk hC117
           clear hA117 hC117 hi0117 hsz117
           have hcv118 := Kd.C_string (P := Tryd.prog) (A := A117) (c := (c0 - a1_0.toNat)) Tryd.underlying22 Tryd.underlying5 Tryd.underlying9 (Kd.C_below HR117.out HB.out)
           have hle_ : a1_1 ≤ (l0.length : Int) := of_decide_eq_true (by first | (with_reducible assumption) | assumption)
           rw [show ((l0.take (a1_1 : Int).toNat).drop (a1_0 : Int).toNat).length = a1_1.toNat - a1_0.toNat by rw [List.length_drop, List.length_take]; omega] at hcv118
           clear hle_
           have hnb119 := Nec.out
           have hnc119 := Nce.out
           have hnb120 := Ned.out
           have hnc120 := Nde.out
           have hcz121_0 : wc.cell? ⟨ge, 0, none⟩ = some (.int .i64 0) := (blk_cell Be_.out 0).trans rfl
           have hcz121_1 : wc.cell? ⟨ge, 1, none⟩ = some (.int .i64 0) := (blk_cell Be_.out 1).trans rfl
           have hcz121_2 : wc.cell? ⟨ge, 2, none⟩ = some (.string (⟨#[]⟩ : ByteArray)) := (blk_cell Be_.out 2).trans rfl
           have hfz121_0 := blk_frozen Be_.out 0
           have hfz121_1 := blk_frozen Be_.out 1
           have hfz121_2 := blk_frozen Be_.out 2
           try go_wp2
           have m0 : Aside0 (((wc.setCell ⟨ge, 2, none⟩ (.string (strOfNums ((l0.take (a1_1 : Int).toNat).drop (a1_0 : Int).toNat)))).setCell ⟨ga, 0, none⟩ (.int .i64 a1_1)).heap[ga]? = some (.cells #[.int .i64 a1_1, .int .i64 a1_1] 64 (0, 0))) := ⟨by (with_reducible repeat first | refine bN_ ?_ _ | refine bD_ ?_ | refine bA_ ?_ _); refine blk_put (cs := #[.int .i64 a1_0, .int .i64 a1_1]) ?_ 0 _ rfl; (with_reducible repeat first | refine bN_ ?_ _ | refine bD_ ?_ | refine bA_ ?_ _); refine blk_far ?_ Nae.out _; (with_reducible repeat first | refine bN_ ?_ _ | refine bD_ ?_ | refine bA_ ?_ _); exact Ba_.out⟩
           have m1 : Aside0 (((wc.setCell ⟨ge, 2, none⟩ (.string (strOfNums ((l0.take (a1_1 : Int).toNat).drop (a1_0 : Int).toNat)))).setCell ⟨ga, 0, none⟩ (.int .i64 a1_1)).heap[gb]? = some (.cells #[.int .i64 a2_0, .int .i64 a2_1] 44 (0, 0))) := ⟨by (with_reducible repeat first | refine bN_ ?_ _ | refine bD_ ?_ | refine bA_ ?_ _); refine blk_far ?_ Nba.out _; (with_reducible repeat first | refine bN_ ?_ _ | refine bD_ ?_ | refine bA_ ?_ _); refine blk_far ?_ Nbe.out _; (with_reducible repeat first | refine bN_ ?_ _ | refine bD_ ?_ | refine bA_ ?_ _); exact Bb_.out⟩
           have m2 : Aside0 (((wc.setCell ⟨ge, 2, none⟩ (.string (strOfNums ((l0.take (a1_1 : Int).toNat).drop (a1_0 : Int).toNat)))).setCell ⟨ga, 0, none⟩ (.int .i64 a1_1)).heap[gc]? = some (.cells #[.int .i64 0, .int .i64 0] 64 (0, 0))) := ⟨by (with_reducible repeat first | refine bN_ ?_ _ | refine bD_ ?_ | refine bA_ ?_ _); refine blk_far ?_ Nca.out _; (with_reducible repeat first | refine bN_ ?_ _ | refine bD_ ?_ | refine bA_ ?_ _); refine blk_far ?_ Nce.out _; (with_reducible repeat first | refine bN_ ?_ _ | refine bD_ ?_ | refine bA_ ?_ _); exact Bc_.out⟩
           have m3 : Aside0 (((wc.setCell ⟨ge, 2, none⟩ (.string (strOfNums ((l0.take (a1_1 : Int).toNat).drop (a1_0 : Int).toNat)))).setCell ⟨ga, 0, none⟩ (.int .i64 a1_1)).heap[gd]? = some (.cells #[.int .i64 0, .int .i64 0, .string (⟨#[]⟩ : ByteArray)] 46 (0, 0))) := ⟨by (with_reducible repeat first | refine bN_ ?_ _ | refine bD_ ?_ | refine bA_ ?_ _); refine blk_far ?_ Nda.out _; (with_reducible repeat first | refine bN_ ?_ _ | refine bD_ ?_ | refine bA_ ?_ _); refine blk_far ?_ Nde.out _; (with_reducible repeat first | refine bN_ ?_ _ | refine bD_ ?_ | refine bA_ ?_ _); exact Bd_.out⟩
           have m4 : Aside0 (((wc.setCell ⟨ge, 2, none⟩ (.string (strOfNums ((l0.take (a1_1 : Int).toNat).drop (a1_0 : Int).toNat)))).setCell ⟨ga, 0, none⟩ (.int .i64 a1_1)).heap[ge]? = some (.cells #[.int .i64 0, .int .i64 0, .string (strOfNums ((l0.take (a1_1 : Int).toNat).drop (a1_0 : Int).toNat))] 46 (0, 0))) := ⟨by (with_reducible repeat first | refine bN_ ?_ _ | refine bD_ ?_ | refine bA_ ?_ _); refine blk_far ?_ Nea.out _; (with_reducible repeat first | refine bN_ ?_ _ | refine bD_ ?_ | refine bA_ ?_ _); refine blk_put (cs := #[.int .i64 0, .int .i64 0, .string (⟨#[]⟩ : ByteArray)]) ?_ 2 _ rfl; (with_reducible repeat first | refine bN_ ?_ _ | refine bD_ ?_ | refine bA_ ?_ _); exact Be_.out⟩
           have m5 : Aside0 (Below w.heap.size w ((wc.setCell ⟨ge, 2, none⟩ (.string (strOfNums ((l0.take (a1_1 : Int).toNat).drop (a1_0 : Int).toNat)))).setCell ⟨ga, 0, none⟩ (.int .i64 a1_1))) := ⟨by repeat (first | (with_reducible first | exact HB.out | apply below_alloc | apply pw_below_drewN | apply below_drew1 | refine below_set ?_ GE112.out | refine below_set ?_ GE113.out | refine below_set ?_ GE114.out | refine below_set ?_ GE115.out | refine below_set ?_ GE116.out) | exact HB.out)⟩
           (try clear Ba_)
           (try clear Bb_)
           (try clear Bc_)
           (try clear Bd_)
           (try clear Be_)
           (try clear HB)
           generalize ((wc.setCell ⟨ge, 2, none⟩ (.string (strOfNums ((l0.take (a1_1 : Int).toNat).drop (a1_0 : Int).toNat)))).setCell ⟨ga, 0, none⟩ (.int .i64 a1_1)) = w122 at m0 m1 m2 m3 m4 m5 ⊢
           have Ba_ := m0
           have Bb_ := m1
           have Bc_ := m2
           have Bd_ := m3
           have Be_ := m4
           have HB := m5
           clear m0 m1 m2 m3 m4 m5
           have m0 := Aside0.mk (blk_drew Ba_.out)
           have m1 := Aside0.mk (blk_drew Bb_.out)
           have m2 := Aside0.mk (blk_drew Bc_.out)
           have m3 := Aside0.mk (blk_drew Bd_.out)
           have m4 := Aside0.mk (blk_drew Be_.out)
           have m5 := Aside0.mk (below_drew1 HB.out)
           clear Ba_
           clear Bb_
           clear Bc_
           clear Bd_
           clear Be_
           clear HB
           have Ba_ := m0
           have Bb_ := m1
           have Bc_ := m2
           have Bd_ := m3
           have Be_ := m4
           have HB := m5
           clear m0 m1 m2 m3 m4 m5
           refine start_ (n := 5) (S := fun w' => w'.cell? ⟨ga, 0, none⟩ = some (.int .i64 a1_1) ∧ w'.cell? ⟨ga, 1, none⟩ = some (.int .i64 a1_1) ∧ w'.cell? ⟨ge, 0, none⟩ = some (.int .i64 0) ∧ w'.cell? ⟨ge, 1, none⟩ = some (.int .i64 0) ∧ w'.cell? ⟨ge, 2, none⟩ = some (.string (strOfNums ((l0.take (a1_1 : Int).toNat).drop (a1_0 : Int).toNat)))) (ds := []) #[false, false, false, false, false] (by kernel_rfl) rfl rfl ⟨(blk_cell Ba_.out 0).trans rfl, (blk_cell Ba_.out 1).trans rfl, (blk_cell Be_.out 0).trans rfl, (blk_cell Be_.out 1).trans rfl, (blk_cell Be_.out 2).trans rfl⟩ (fun hH => ?_)
           generalize w122.drew = w123 at Ba_ Bb_ Bc_ Bd_ Be_ HB hH ⊢
           refine take_ (i := 0) (N := some 191) (v := ?_) (a' := ?_) #[true, false, false, false, false] rfl rfl (by kernel_rfl) (fun _ _ _ h => h) (Or.inl ⟨by rfl, ?_⟩) hH ?_ ?_
           rotate_left
           ·
            rintro w' ⟨s0, s1, s2, s3, s4⟩
            go_simp
            with_reducible rfl
           rotate_left
           ·
            simp only [Act.put, List.setIfInBounds_toArray, List.set_cons_zero, List.set_cons_succ, i64_w, i32_w]
            rfl
           refine take_ (i := 1) (N := some 192) (v := ?_) (a' := ?_) #[true, true, false, false, false] rfl rfl (by kernel_rfl) (fun _ _ _ h => h) (Or.inl ⟨by rfl, ?_⟩) hH ?_ ?_
           rotate_left
           ·
            rintro w' ⟨s0, s1, s2, s3, s4⟩
            go_simp
            with_reducible rfl
           rotate_left
           ·
            simp only [Act.put, List.setIfInBounds_toArray, List.set_cons_zero, List.set_cons_succ, i64_w, i32_w]
            rfl
           refine one_ (i := 2) (N := none) #[true, true, true, false, false] rfl rfl (by kernel_rfl) (by decide) (fun K hK => ?_)
           have hs124 : w123.cell? ⟨gc, 0, none⟩ = some (.int .i64 0) := (blk_cell Bc_.out 0).trans rfl
           have hfs124 := blk_frozen Bc_.out 0
           have hns124_0 := Nac.out
           have hns124_1 := Nbc.out
           have hns124_3 := Ndc.out
           have hns124_4 := Nec.out
           have hms124_0 := Nca.out
           have hms124_1 := Ncb.out
           have hms124_3 := Ncd.out
           have hms124_4 := Nce.out
           have hs125 : w123.cell? ⟨gc, 1, none⟩ = some (.int .i64 0) := (blk_cell Bc_.out 1).trans rfl
           have hfs125 := blk_frozen Bc_.out 1
           have hns125_0 := Nac.out
           have hns125_1 := Nbc.out
           have hns125_3 := Ndc.out
           have hns125_4 := Nec.out
           have hms125_0 := Nca.out
           have hms125_1 := Ncb.out
           have hms125_3 := Ncd.out
           have hms125_4 := Nce.out
           refine skip_ (w1 := ?_) (by rfl) rfl ?_ ?_
           rotate_left
           ·
            go_simp
            rfl
           refine hK.out _ _ ⟨((cf_ Nac.out _).trans (((cf_ Nac.out _).trans (hH.1)))), ((cf_ Nac.out _).trans (((cf_ Nac.out _).trans (hH.2.1)))), ((cf_ Nec.out _).trans (((cf_ Nec.out _).trans (hH.2.2.1)))), ((cf_ Nec.out _).trans (((cf_ Nec.out _).trans (hH.2.2.2.1)))), ((cf_ Nec.out _).trans (((cf_ Nec.out _).trans (hH.2.2.2.2))))⟩ (fun hH => ?_)
           clear hK K
           refine one_ (i := 3) (N := none) #[true, true, true, true, false] rfl rfl (by kernel_rfl) (by decide) (fun K hK => ?_)
           have hs126 : w123.cell? ⟨gd, 0, none⟩ = some (.int .i64 0) := (blk_cell Bd_.out 0).trans rfl
           have hfs126 := blk_frozen Bd_.out 0
           have hns126_0 := Nad.out
           have hns126_1 := Nbd.out
           have hns126_2 := Ncd.out
           have hns126_4 := Ned.out
           have hms126_0 := Nda.out
           have hms126_1 := Ndb.out
           have hms126_2 := Ndc.out
           have hms126_4 := Nde.out
           have hs127 : w123.cell? ⟨gd, 1, none⟩ = some (.int .i64 0) := (blk_cell Bd_.out 1).trans rfl
           have hfs127 := blk_frozen Bd_.out 1
           have hns127_0 := Nad.out
           have hns127_1 := Nbd.out
           have hns127_2 := Ncd.out
           have hns127_4 := Ned.out
           have hms127_0 := Nda.out
           have hms127_1 := Ndb.out
           have hms127_2 := Ndc.out
           have hms127_4 := Nde.out
           have hs128 : w123.cell? ⟨gd, 2, none⟩ = some (.string (⟨#[]⟩ : ByteArray)) := (blk_cell Bd_.out 2).trans rfl
           have hfs128 := blk_frozen Bd_.out 2
           have hns128_0 := Nad.out
           have hns128_1 := Nbd.out
           have hns128_2 := Ncd.out
           have hns128_4 := Ned.out
           have hms128_0 := Nda.out
           have hms128_1 := Ndb.out
           have hms128_2 := Ndc.out
           have hms128_4 := Nde.out
           refine skip_ (w1 := ?_) (by rfl) rfl ?_ ?_
           rotate_left
           ·
            go_simp
            rfl
           refine hK.out _ _ ⟨((cf_ Nad.out _).trans (((cf_ Nad.out _).trans (((cf_ Nad.out _).trans (hH.1)))))), ((cf_ Nad.out _).trans (((cf_ Nad.out _).trans (((cf_ Nad.out _).trans (hH.2.1)))))), ((cf_ Ned.out _).trans (((cf_ Ned.out _).trans (((cf_ Ned.out _).trans (hH.2.2.1)))))), ((cf_ Ned.out _).trans (((cf_ Ned.out _).trans (((cf_ Ned.out _).trans (hH.2.2.2.1)))))), ((cf_ Ned.out _).trans (((cf_ Ned.out _).trans (((cf_ Ned.out _).trans (hH.2.2.2.2))))))⟩ (fun hH => ?_)
           clear hK K
           refine pure_ (i := 4) (N := some 8) (v := ?_) (a' := ?_) #[true, true, true, true, true] rfl rfl (by kernel_rfl) (fun _ _ _ h => h) (Or.inl ⟨by rfl, ?_⟩) ?_ ?_
           rotate_left
           ·
            intro w'
            go_simp
            with_reducible rfl
           rotate_left
           ·
            simp only [Act.put, List.setIfInBounds_toArray, List.set_cons_zero, List.set_cons_succ, i64_w, i32_w]
            rfl
           refine done_ (by kernel_rfl) ?_
           try go_wp2
           refine bodyPost_ret (results_list (rs := [.cell 6 64, .cell 7 46, .tmp 8]) rfl (by simp) (.cell gc 64 #[.int .i64 a1_1, .int .i64 a1_1] (0, 0) _ rfl (by (with_reducible repeat first | refine bN_ ?_ _ | refine bD_ ?_ | refine bA_ ?_ _); refine blk_far ?_ Ncd.out _; (with_reducible repeat first | refine bN_ ?_ _ | refine bD_ ?_ | refine bA_ ?_ _); refine blk_far ?_ Ncd.out _; (with_reducible repeat first | refine bN_ ?_ _ | refine bD_ ?_ | refine bA_ ?_ _); refine blk_far ?_ Ncd.out _; (with_reducible repeat first | refine bN_ ?_ _ | refine bD_ ?_ | refine bA_ ?_ _); refine blk_put (cs := #[.int .i64 a1_1, .int .i64 0]) ?_ 1 _ rfl; (with_reducible repeat first | refine bN_ ?_ _ | refine bD_ ?_ | refine bA_ ?_ _); refine blk_put (cs := #[.int .i64 0, .int .i64 0]) ?_ 0 _ rfl; (with_reducible repeat first | refine bN_ ?_ _ | refine bD_ ?_ | refine bA_ ?_ _); exact Bc_.out) Tryd.underlying64 rfl (by kernel_rfl) (.cell gd 46 #[.int .i64 0, .int .i64 0, .string (strOfNums ((l0.take (a1_1 : Int).toNat).drop (a1_0 : Int).toNat))] (0, 0) _ rfl (by (with_reducible repeat first | refine bN_ ?_ _ | refine bD_ ?_ | refine bA_ ?_ _); refine blk_put (cs := #[.int .i64 0, .int .i64 0, .string (⟨#[]⟩ : ByteArray)]) ?_ 2 _ rfl; (with_reducible repeat first | refine bN_ ?_ _ | refine bD_ ?_ | refine bA_ ?_ _); refine blk_put (cs := #[.int .i64 0, .int .i64 0, .string (⟨#[]⟩ : ByteArray)]) ?_ 1 _ rfl; (with_reducible repeat first | refine bN_ ?_ _ | refine bD_ ?_ | refine bA_ ?_ _); refine blk_put (cs := #[.int .i64 0, .int .i64 0, .string (⟨#[]⟩ : ByteArray)]) ?_ 0 _ rfl; (with_reducible repeat first | refine bN_ ?_ _ | refine bD_ ?_ | refine bA_ ?_ _); refine blk_far ?_ Ndc.out _; (with_reducible repeat first | refine bN_ ?_ _ | refine bD_ ?_ | refine bA_ ?_ _); refine blk_far ?_ Ndc.out _; (with_reducible repeat first | refine bN_ ?_ _ | refine bD_ ?_ | refine bA_ ?_ _); exact Bd_.out) Tryd.underlying46 rfl (by kernel_rfl) (.tmp .nil)))) rfl ?_
           exact ⟨by first | rfl | (simp [errW_none, errW_some] <;> rfl), by repeat (first | (with_reducible first | exact HB.out | apply below_alloc | apply pw_below_drewN | apply below_drew1 | refine below_set ?_ GE112.out | refine below_set ?_ GE113.out | refine below_set ?_ GE114.out | refine below_set ?_ GE115.out | refine below_set ?_ GE116.out) | exact HB.out)⟩
          ·
           rw [if_neg c107] at H
           exact absurd H (by simp)
         ·
          rw [if_neg c106] at H
          exact absurd H (by simp)
        ·
         rw [if_neg c105] at H
         exact absurd H (by simp)
       ·
        rw [if_neg c104] at H
        have c104b0 : (a2_0 == 2) = false := beq_eq_false_iff_ne.mpr c104
        have c104b1 : (a2_0 != 2) = true := bne_iff_ne.mpr c104
        by_cases c129 : a2_0 = 3
        ·
         rw [if_pos c129] at H
         have c129b0 : (a2_0 == 3) = true := beq_iff_eq.mpr c129
         have c129b1 : (a2_0 != 3) = false := bne_eq_false_iff_eq.mpr c129
         clear c129
         simp only [Option.some.injEq, Prod.mk.injEq] at H
         obtain ⟨rfl, rfl, rfl, rfl, rfl, rfl⟩ := H
         have hnb130 := Nba.out
         have hnc130 := Nab.out
         have hnb131 := Nbc.out
         have hnc131 := Ncb.out
         have hnb132 := Nbd.out
         have hnc132 := Ndb.out
         have hnb133 := Nbe.out
         have hnc133 := Neb.out
         have hcz134_0 : wc.cell? ⟨gb, 0, none⟩ = some (.int .i64 a2_0) := (blk_cell Bb_.out 0).trans rfl
         have hcz134_1 : wc.cell? ⟨gb, 1, none⟩ = some (.int .i64 a2_1) := (blk_cell Bb_.out 1).trans rfl
         have hfz134_0 := blk_frozen Bb_.out 0
         have hfz134_1 := blk_frozen Bb_.out 1
         have hnb135 := Nac.out
         have hnc135 := Nca.out
         have hnb136 := Nad.out
         have hnc136 := Nda.out
         have hnb137 := Nae.out
         have hnc137 := Nea.out
         have hcz138_0 : wc.cell? ⟨ga, 0, none⟩ = some (.int .i64 a1_0) := (blk_cell Ba_.out 0).trans rfl
         have hcz138_1 : wc.cell? ⟨ga, 1, none⟩ = some (.int .i64 a1_1) := (blk_cell Ba_.out 1).trans rfl
         have hfz138_0 := blk_frozen Ba_.out 0
         have hfz138_1 := blk_frozen Ba_.out 1
         try go_wp2
         have m0 : Aside0 ((wc.setCell ⟨ga, 0, none⟩ (.int .i64 a1_1)).heap[ga]? = some (.cells #[.int .i64 a1_1, .int .i64 a1_1] 64 (0, 0))) := ⟨by (with_reducible repeat first | refine bN_ ?_ _ | refine bD_ ?_ | refine bA_ ?_ _); refine blk_put (cs := #[.int .i64 a1_0, .int .i64 a1_1]) ?_ 0 _ rfl; (with_reducible repeat first | refine bN_ ?_ _ | refine bD_ ?_ | refine bA_ ?_ _); exact Ba_.out⟩
         have m1 : Aside0 ((wc.setCell ⟨ga, 0, none⟩ (.int .i64 a1_1)).heap[gb]? = some (.cells #[.int .i64 a2_0, .int .i64 a2_1] 44 (0, 0))) := ⟨by (with_reducible repeat first | refine bN_ ?_ _ | refine bD_ ?_ | refine bA_ ?_ _); refine blk_far ?_ Nba.out _; (with_reducible repeat first | refine bN_ ?_ _ | refine bD_ ?_ | refine bA_ ?_ _); exact Bb_.out⟩
         have m2 : Aside0 ((wc.setCell ⟨ga, 0, none⟩ (.int .i64 a1_1)).heap[gc]? = some (.cells #[.int .i64 0, .int .i64 0] 64 (0, 0))) := ⟨by (with_reducible repeat first | refine bN_ ?_ _ | refine bD_ ?_ | refine bA_ ?_ _); refine blk_far ?_ Nca.out _; (with_reducible repeat first | refine bN_ ?_ _ | refine bD_ ?_ | refine bA_ ?_ _); exact Bc_.out⟩
         have m3 : Aside0 ((wc.setCell ⟨ga, 0, none⟩ (.int .i64 a1_1)).heap[gd]? = some (.cells #[.int .i64 0, .int .i64 0, .string (⟨#[]⟩ : ByteArray)] 46 (0, 0))) := ⟨by (with_reducible repeat first | refine bN_ ?_ _ | refine bD_ ?_ | refine bA_ ?_ _); refine blk_far ?_ Nda.out _; (with_reducible repeat first | refine bN_ ?_ _ | refine bD_ ?_ | refine bA_ ?_ _); exact Bd_.out⟩
         have m4 : Aside0 ((wc.setCell ⟨ga, 0, none⟩ (.int .i64 a1_1)).heap[ge]? = some (.cells #[.int .i64 0, .int .i64 0, .string (⟨#[]⟩ : ByteArray)] 46 (0, 0))) := ⟨by (with_reducible repeat first | refine bN_ ?_ _ | refine bD_ ?_ | refine bA_ ?_ _); refine blk_far ?_ Nea.out _; (with_reducible repeat first | refine bN_ ?_ _ | refine bD_ ?_ | refine bA_ ?_ _); exact Be_.out⟩
         have m5 : Aside0 (Below w.heap.size w (wc.setCell ⟨ga, 0, none⟩ (.int .i64 a1_1))) := ⟨by repeat (first | (with_reducible first | exact HB.out | apply below_alloc | apply pw_below_drewN | apply below_drew1 | refine below_set ?_ GE112.out | refine below_set ?_ GE113.out | refine below_set ?_ GE114.out | refine below_set ?_ GE115.out | refine below_set ?_ GE116.out) | exact HB.out)⟩
         (try clear Ba_)
         (try clear Bb_)
         (try clear Bc_)
         (try clear Bd_)
         (try clear Be_)
         (try clear HB)
         generalize (wc.setCell ⟨ga, 0, none⟩ (.int .i64 a1_1)) = w139 at m0 m1 m2 m3 m4 m5 ⊢
         have Ba_ := m0
         have Bb_ := m1
         have Bc_ := m2
         have Bd_ := m3
         have Be_ := m4
         have HB := m5
         clear m0 m1 m2 m3 m4 m5
         have m0 := Aside0.mk (blk_drew Ba_.out)
         have m1 := Aside0.mk (blk_drew Bb_.out)
         have m2 := Aside0.mk (blk_drew Bc_.out)
         have m3 := Aside0.mk (blk_drew Bd_.out)
         have m4 := Aside0.mk (blk_drew Be_.out)
         have m5 := Aside0.mk (below_drew1 HB.out)
         clear Ba_
         clear Bb_
         clear Bc_
         clear Bd_
         clear Be_
         clear HB
         have Ba_ := m0
         have Bb_ := m1
         have Bc_ := m2
         have Bd_ := m3
         have Be_ := m4
         have HB := m5
         clear m0 m1 m2 m3 m4 m5
         refine start_ (n := 5) (S := fun w' => w'.cell? ⟨ga, 0, none⟩ = some (.int .i64 a1_1) ∧ w'.cell? ⟨ga, 1, none⟩ = some (.int .i64 a1_1) ∧ w'.cell? ⟨ge, 0, none⟩ = some (.int .i64 0) ∧ w'.cell? ⟨ge, 1, none⟩ = some (.int .i64 0) ∧ w'.cell? ⟨ge, 2, none⟩ = some (.string (⟨#[]⟩ : ByteArray))) (ds := []) #[false, false, false, false, false] (by kernel_rfl) rfl rfl ⟨(blk_cell Ba_.out 0).trans rfl, (blk_cell Ba_.out 1).trans rfl, (blk_cell Be_.out 0).trans rfl, (blk_cell Be_.out 1).trans rfl, (blk_cell Be_.out 2).trans rfl⟩ (fun hH => ?_)
         generalize w139.drew = w140 at Ba_ Bb_ Bc_ Bd_ Be_ HB hH ⊢
         refine take_ (i := 0) (N := some 191) (v := ?_) (a' := ?_) #[true, false, false, false, false] rfl rfl (by kernel_rfl) (fun _ _ _ h => h) (Or.inl ⟨by rfl, ?_⟩) hH ?_ ?_
         rotate_left
         ·
          rintro w' ⟨s0, s1, s2, s3, s4⟩
          go_simp
          with_reducible rfl
         rotate_left
         ·
          simp only [Act.put, List.setIfInBounds_toArray, List.set_cons_zero, List.set_cons_succ, i64_w, i32_w]
          rfl
         refine take_ (i := 1) (N := some 192) (v := ?_) (a' := ?_) #[true, true, false, false, false] rfl rfl (by kernel_rfl) (fun _ _ _ h => h) (Or.inl ⟨by rfl, ?_⟩) hH ?_ ?_
         rotate_left
         ·
          rintro w' ⟨s0, s1, s2, s3, s4⟩
          go_simp
          with_reducible rfl
         rotate_left
         ·
          simp only [Act.put, List.setIfInBounds_toArray, List.set_cons_zero, List.set_cons_succ, i64_w, i32_w]
          rfl
         refine one_ (i := 2) (N := none) #[true, true, true, false, false] rfl rfl (by kernel_rfl) (by decide) (fun K hK => ?_)
         have hs141 : w140.cell? ⟨gc, 0, none⟩ = some (.int .i64 0) := (blk_cell Bc_.out 0).trans rfl
         have hfs141 := blk_frozen Bc_.out 0
         have hns141_0 := Nac.out
         have hns141_1 := Nbc.out
         have hns141_3 := Ndc.out
         have hns141_4 := Nec.out
         have hms141_0 := Nca.out
         have hms141_1 := Ncb.out
         have hms141_3 := Ncd.out
         have hms141_4 := Nce.out
         have hs142 : w140.cell? ⟨gc, 1, none⟩ = some (.int .i64 0) := (blk_cell Bc_.out 1).trans rfl
         have hfs142 := blk_frozen Bc_.out 1
         have hns142_0 := Nac.out
         have hns142_1 := Nbc.out
         have hns142_3 := Ndc.out
         have hns142_4 := Nec.out
         have hms142_0 := Nca.out
         have hms142_1 := Ncb.out
         have hms142_3 := Ncd.out
         have hms142_4 := Nce.out
         refine skip_ (w1 := ?_) (by rfl) rfl ?_ ?_
         rotate_left
         ·
          go_simp
          rfl
         refine hK.out _ _ ⟨((cf_ Nac.out _).trans (((cf_ Nac.out _).trans (hH.1)))), ((cf_ Nac.out _).trans (((cf_ Nac.out _).trans (hH.2.1)))), ((cf_ Nec.out _).trans (((cf_ Nec.out _).trans (hH.2.2.1)))), ((cf_ Nec.out _).trans (((cf_ Nec.out _).trans (hH.2.2.2.1)))), ((cf_ Nec.out _).trans (((cf_ Nec.out _).trans (hH.2.2.2.2))))⟩ (fun hH => ?_)
         clear hK K
         refine one_ (i := 3) (N := none) #[true, true, true, true, false] rfl rfl (by kernel_rfl) (by decide) (fun K hK => ?_)
         have hs143 : w140.cell? ⟨gd, 0, none⟩ = some (.int .i64 0) := (blk_cell Bd_.out 0).trans rfl
         have hfs143 := blk_frozen Bd_.out 0
         have hns143_0 := Nad.out
         have hns143_1 := Nbd.out
         have hns143_2 := Ncd.out
         have hns143_4 := Ned.out
         have hms143_0 := Nda.out
         have hms143_1 := Ndb.out
         have hms143_2 := Ndc.out
         have hms143_4 := Nde.out
         have hs144 : w140.cell? ⟨gd, 1, none⟩ = some (.int .i64 0) := (blk_cell Bd_.out 1).trans rfl
         have hfs144 := blk_frozen Bd_.out 1
         have hns144_0 := Nad.out
         have hns144_1 := Nbd.out
         have hns144_2 := Ncd.out
         have hns144_4 := Ned.out
         have hms144_0 := Nda.out
         have hms144_1 := Ndb.out
         have hms144_2 := Ndc.out
         have hms144_4 := Nde.out
         have hs145 : w140.cell? ⟨gd, 2, none⟩ = some (.string (⟨#[]⟩ : ByteArray)) := (blk_cell Bd_.out 2).trans rfl
         have hfs145 := blk_frozen Bd_.out 2
         have hns145_0 := Nad.out
         have hns145_1 := Nbd.out
         have hns145_2 := Ncd.out
         have hns145_4 := Ned.out
         have hms145_0 := Nda.out
         have hms145_1 := Ndb.out
         have hms145_2 := Ndc.out
         have hms145_4 := Nde.out
         refine skip_ (w1 := ?_) (by rfl) rfl ?_ ?_
         rotate_left
         ·
          go_simp
          rfl
         refine hK.out _ _ ⟨((cf_ Nad.out _).trans (((cf_ Nad.out _).trans (((cf_ Nad.out _).trans (hH.1)))))), ((cf_ Nad.out _).trans (((cf_ Nad.out _).trans (((cf_ Nad.out _).trans (hH.2.1)))))), ((cf_ Ned.out _).trans (((cf_ Ned.out _).trans (((cf_ Ned.out _).trans (hH.2.2.1)))))), ((cf_ Ned.out _).trans (((cf_ Ned.out _).trans (((cf_ Ned.out _).trans (hH.2.2.2.1)))))), ((cf_ Ned.out _).trans (((cf_ Ned.out _).trans (((cf_ Ned.out _).trans (hH.2.2.2.2))))))⟩ (fun hH => ?_)
         clear hK K
         refine pure_ (i := 4) (N := some 8) (v := ?_) (a' := ?_) #[true, true, true, true, true] rfl rfl (by kernel_rfl) (fun _ _ _ h => h) (Or.inl ⟨by rfl, ?_⟩) ?_ ?_
         rotate_left
         ·
          intro w'
          go_simp
          with_reducible rfl
         rotate_left
         ·
          simp only [Act.put, List.setIfInBounds_toArray, List.set_cons_zero, List.set_cons_succ, i64_w, i32_w]
          rfl
         refine done_ (by kernel_rfl) ?_
         try go_wp2
         refine bodyPost_ret (results_list (rs := [.cell 6 64, .cell 7 46, .tmp 8]) rfl (by simp) (.cell gc 64 #[.int .i64 a1_1, .int .i64 a1_1] (0, 0) _ rfl (by (with_reducible repeat first | refine bN_ ?_ _ | refine bD_ ?_ | refine bA_ ?_ _); refine blk_far ?_ Ncd.out _; (with_reducible repeat first | refine bN_ ?_ _ | refine bD_ ?_ | refine bA_ ?_ _); refine blk_far ?_ Ncd.out _; (with_reducible repeat first | refine bN_ ?_ _ | refine bD_ ?_ | refine bA_ ?_ _); refine blk_far ?_ Ncd.out _; (with_reducible repeat first | refine bN_ ?_ _ | refine bD_ ?_ | refine bA_ ?_ _); refine blk_put (cs := #[.int .i64 a1_1, .int .i64 0]) ?_ 1 _ rfl; (with_reducible repeat first | refine bN_ ?_ _ | refine bD_ ?_ | refine bA_ ?_ _); refine blk_put (cs := #[.int .i64 0, .int .i64 0]) ?_ 0 _ rfl; (with_reducible repeat first | refine bN_ ?_ _ | refine bD_ ?_ | refine bA_ ?_ _); exact Bc_.out) Tryd.underlying64 rfl (by kernel_rfl) (.cell gd 46 #[.int .i64 0, .int .i64 0, .string (⟨#[]⟩ : ByteArray)] (0, 0) _ rfl (by (with_reducible repeat first | refine bN_ ?_ _ | refine bD_ ?_ | refine bA_ ?_ _); refine blk_put (cs := #[.int .i64 0, .int .i64 0, .string (⟨#[]⟩ : ByteArray)]) ?_ 2 _ rfl; (with_reducible repeat first | refine bN_ ?_ _ | refine bD_ ?_ | refine bA_ ?_ _); refine blk_put (cs := #[.int .i64 0, .int .i64 0, .string (⟨#[]⟩ : ByteArray)]) ?_ 1 _ rfl; (with_reducible repeat first | refine bN_ ?_ _ | refine bD_ ?_ | refine bA_ ?_ _); refine blk_put (cs := #[.int .i64 0, .int .i64 0, .string (⟨#[]⟩ : ByteArray)]) ?_ 0 _ rfl; (with_reducible repeat first | refine bN_ ?_ _ | refine bD_ ?_ | refine bA_ ?_ _); refine blk_far ?_ Ndc.out _; (with_reducible repeat first | refine bN_ ?_ _ | refine bD_ ?_ | refine bA_ ?_ _); refine blk_far ?_ Ndc.out _; (with_reducible repeat first | refine bN_ ?_ _ | refine bD_ ?_ | refine bA_ ?_ _); exact Bd_.out) Tryd.underlying46 rfl (by kernel_rfl) (.tmp .nil)))) rfl ?_
         exact ⟨by first | rfl | (simp [errW_none, errW_some] <;> rfl), by repeat (first | (with_reducible first | exact HB.out | apply below_alloc | apply pw_below_drewN | apply below_drew1 | refine below_set ?_ GE112.out | refine below_set ?_ GE113.out | refine below_set ?_ GE114.out | refine below_set ?_ GE115.out | refine below_set ?_ GE116.out) | exact HB.out)⟩
        ·
         rw [if_neg c129] at H
         have c129b0 : (a2_0 == 3) = false := beq_eq_false_iff_ne.mpr c129
         have c129b1 : (a2_0 != 3) = true := bne_iff_ne.mpr c129
         by_cases c146 : a2_0 = 4
         ·
          rw [if_pos c146] at H
          have c146b0 : (a2_0 == 4) = true := beq_iff_eq.mpr c146
          have c146b1 : (a2_0 != 4) = false := bne_eq_false_iff_eq.mpr c146
          clear c146
          by_cases c147 : x11_3 = true
          ·
           subst c147
           have H1 : (if (wrap64 (a1_1 + a2_1)) < (l0.length : Int) then (if 0 ≤ (wrap64 (a1_1 + a2_1)) then (some (a1_0, a1_1, wrap64 (rd l0 (wrap64 (a1_1 + a2_1))), 0, (⟨#[]⟩ : ByteArray), true)) else (none)) else (some (a1_0, a1_1, 0, 0, (⟨#[]⟩ : ByteArray), true))) = some (r1, r2, r3, r4, r5, r6) := by rw [if_pos rfl] at H; exact H
           clear H
           have H := H1
           clear H1
           by_cases c148 : (wrap64 (a1_1 + a2_1)) < (l0.length : Int)
           ·
            rw [if_pos c148] at H
            have c148b0 : decide ((wrap64 (a1_1 + a2_1)) < (l0.length : Int)) = true := decide_eq_true c148
            clear c148
            obtain ⟨ji149, hji149⟩ : ∃ j_ : Int, (wrap64 (a1_1 + a2_1)) = j_ := ⟨_, rfl⟩
            replace H : (if 0 ≤ (ji149) then (some (a1_0, a1_1, wrap64 (rd l0 (ji149)), 0, (⟨#[]⟩ : ByteArray), true)) else (none)) = some (r1, r2, r3, r4, r5, r6) := by first | (rw [hji149] at H; exact H) | (simp only [hji149] at H ⊢; exact H)
            (try rw [hji149] at c148b0)
            have hji149w : (IntKind.i64.wrap (a1_1 + a2_1)) = ji149 := (i64_w _).trans hji149
            by_cases c150 : 0 ≤ (ji149)
            ·
             rw [if_pos c150] at H
             have c150b0 : decide (0 ≤ (ji149)) = true := decide_eq_true c150
             clear c150
             simp only [Option.some.injEq, Prod.mk.injEq] at H
             obtain ⟨rfl, rfl, rfl, rfl, rfl, rfl⟩ := H
             have hnb151 := Nba.out
             have hnc151 := Nab.out
             have hnb152 := Nbc.out
             have hnc152 := Ncb.out
             have hnb153 := Nbd.out
             have hnc153 := Ndb.out
             have hnb154 := Nbe.out
             have hnc154 := Neb.out
             have hcz155_0 : wc.cell? ⟨gb, 0, none⟩ = some (.int .i64 a2_0) := (blk_cell Bb_.out 0).trans rfl
             have hcz155_1 : wc.cell? ⟨gb, 1, none⟩ = some (.int .i64 a2_1) := (blk_cell Bb_.out 1).trans rfl
             have hfz155_0 := blk_frozen Bb_.out 0
             have hfz155_1 := blk_frozen Bb_.out 1
             have p118 : 0 ≤ ((ji149) : Int) := of_decide_eq_true (by first | (with_reducible assumption) | assumption)
             have q118 : (ji149) < (l0.length : Int) := of_decide_eq_true (by first | (with_reducible assumption) | assumption)
             obtain ⟨ad118, e118, hx118_0⟩ := Kd.at_int HR0.out (ji149) p118 q118
             cases e118
             replace hx118_0 := (HB.out.cell (World.block_lt_of_cell? w _ hx118_0)).trans hx118_0
             replace p118 := eq_true p118
             replace q118 := eq_true q118
             have hnb156 := Nea.out
             have hnc156 := Nae.out
             have hnb157 := Nec.out
             have hnc157 := Nce.out
             have hnb158 := Ned.out
             have hnc158 := Nde.out
             have hcz159_0 : wc.cell? ⟨ge, 0, none⟩ = some (.int .i64 0) := (blk_cell Be_.out 0).trans rfl
             have hcz159_1 : wc.cell? ⟨ge, 1, none⟩ = some (.int .i64 0) := (blk_cell Be_.out 1).trans rfl
             have hcz159_2 : wc.cell? ⟨ge, 2, none⟩ = some (.string (⟨#[]⟩ : ByteArray)) := (blk_cell Be_.out 2).trans rfl
             have hfz159_0 := blk_frozen Be_.out 0
             have hfz159_1 := blk_frozen Be_.out 1
             have hfz159_2 := blk_frozen Be_.out 2
             try go_wp2
             have m0 : Aside0 ((wc.setCell ⟨ge, 0, none⟩ (.int .i64 (wrap64 (rd l0 (ji149))))).heap[ga]? = some (.cells #[.int .i64 a1_0, .int .i64 a1_1] 64 (0, 0))) := ⟨by (with_reducible repeat first | refine bN_ ?_ _ | refine bD_ ?_ | refine bA_ ?_ _); refine blk_far ?_ Nae.out _; (with_reducible repeat first | refine bN_ ?_ _ | refine bD_ ?_ | refine bA_ ?_ _); exact Ba_.out⟩
             have m1 : Aside0 ((wc.setCell ⟨ge, 0, none⟩ (.int .i64 (wrap64 (rd l0 (ji149))))).heap[gb]? = some (.cells #[.int .i64 a2_0, .int .i64 a2_1] 44 (0, 0))) := ⟨by (with_reducible repeat first | refine bN_ ?_ _ | refine bD_ ?_ | refine bA_ ?_ _); refine blk_far ?_ Nbe.out _; (with_reducible repeat first | refine bN_ ?_ _ | refine bD_ ?_ | refine bA_ ?_ _); exact Bb_.out⟩
             have m2 : Aside0 ((wc.setCell ⟨ge, 0, none⟩ (.int .i64 (wrap64 (rd l0 (ji149))))).heap[gc]? = some (.cells #[.int .i64 0, .int .i64 0] 64 (0, 0))) := ⟨by (with_reducible repeat first | refine bN_ ?_ _ | refine bD_ ?_ | refine bA_ ?_ _); refine blk_far ?_ Nce.out _; (with_reducible repeat first | refine bN_ ?_ _ | refine bD_ ?_ | refine bA_ ?_ _); exact Bc_.out⟩
             have m3 : Aside0 ((wc.setCell ⟨ge, 0, none⟩ (.int .i64 (wrap64 (rd l0 (ji149))))).heap[gd]? = some (.cells #[.int .i64 0, .int .i64 0, .string (⟨#[]⟩ : ByteArray)] 46 (0, 0))) := ⟨by (with_reducible repeat first | refine bN_ ?_ _ | refine bD_ ?_ | refine bA_ ?_ _); refine blk_far ?_ Nde.out _; (with_reducible repeat first | refine bN_ ?_ _ | refine bD_ ?_ | refine bA_ ?_ _); exact Bd_.out⟩
             have m4 : Aside0 ((wc.setCell ⟨ge, 0, none⟩ (.int .i64 (wrap64 (rd l0 (ji149))))).heap[ge]? = some (.cells #[.int .i64 (wrap64 (rd l0 (ji149))), .int .i64 0, .string (⟨#[]⟩ : ByteArray)] 46 (0, 0))) := ⟨by (with_reducible repeat first | refine bN_ ?_ _ | refine bD_ ?_ | refine bA_ ?_ _); refine blk_put (cs := #[.int .i64 0, .int .i64 0, .string (⟨#[]⟩ : ByteArray)]) ?_ 0 _ rfl; (with_reducible repeat first | refine bN_ ?_ _ | refine bD_ ?_ | refine bA_ ?_ _); exact Be_.out⟩
             have m5 : Aside0 (Below w.heap.size w (wc.setCell ⟨ge, 0, none⟩ (.int .i64 (wrap64 (rd l0 (ji149)))))) := ⟨by repeat (first | (with_reducible first | exact HB.out | apply below_alloc | apply pw_below_drewN | apply below_drew1 | refine below_set ?_ GE112.out | refine below_set ?_ GE113.out | refine below_set ?_ GE114.out | refine below_set ?_ GE115.out | refine below_set ?_ GE116.out) | exact HB.out)⟩
             (try clear Ba_)
             (try clear Bb_)
             (try clear Bc_)
             (try clear Bd_)
             (try clear Be_)
             (try clear HB)
             generalize (wc.setCell ⟨ge, 0, none⟩ (.int .i64 (wrap64 (rd l0 (ji149))))) = w160 at m0 m1 m2 m3 m4 m5 ⊢
             have Ba_ := m0
             have Bb_ := m1
             have Bc_ := m2
             have Bd_ := m3
             have Be_ := m4
             have HB := m5
             clear m0 m1 m2 m3 m4 m5
             have m0 := Aside0.mk (blk_drew Ba_.out)
             have m1 := Aside0.mk (blk_drew Bb_.out)
             have m2 := Aside0.mk (blk_drew Bc_.out)
             have m3 := Aside0.mk (blk_drew Bd_.out)
             have m4 := Aside0.mk (blk_drew Be_.out)
             have m5 := Aside0.mk (below_drew1 HB.out)
             clear Ba_
             clear Bb_
             clear Bc_
             clear Bd_
             clear Be_
             clear HB
             have Ba_ := m0
             have Bb_ := m1
             have Bc_ := m2
             have Bd_ := m3
             have Be_ := m4
             have HB := m5
             clear m0 m1 m2 m3 m4 m5
             refine start_ (n := 5) (S := fun w' => w'.cell? ⟨ga, 0, none⟩ = some (.int .i64 a1_0) ∧ w'.cell? ⟨ga, 1, none⟩ = some (.int .i64 a1_1) ∧ w'.cell? ⟨ge, 0, none⟩ = some (.int .i64 (wrap64 (rd l0 (ji149)))) ∧ w'.cell? ⟨ge, 1, none⟩ = some (.int .i64 0) ∧ w'.cell? ⟨ge, 2, none⟩ = some (.string (⟨#[]⟩ : ByteArray))) (ds := []) #[false, false, false, false, false] (by kernel_rfl) rfl rfl ⟨(blk_cell Ba_.out 0).trans rfl, (blk_cell Ba_.out 1).trans rfl, (blk_cell Be_.out 0).trans rfl, (blk_cell Be_.out 1).trans rfl, (blk_cell Be_.out 2).trans rfl⟩ (fun hH => ?_)
             generalize w160.drew = w161 at Ba_ Bb_ Bc_ Bd_ Be_ HB hH ⊢
             refine take_ (i := 0) (N := some 191) (v := ?_) (a' := ?_) #[true, false, false, false, false] rfl rfl (by kernel_rfl) (fun _ _ _ h => h) (Or.inl ⟨by rfl, ?_⟩) hH ?_ ?_
             rotate_left
             ·
              rintro w' ⟨s0, s1, s2, s3, s4⟩
              go_simp
              with_reducible rfl
             rotate_left
             ·
              simp only [Act.put, List.setIfInBounds_toArray, List.set_cons_zero, List.set_cons_succ, i64_w, i32_w]
              rfl
             refine take_ (i := 1) (N := some 192) (v := ?_) (a' := ?_) #[true, true, false, false, false] rfl rfl (by kernel_rfl) (fun _ _ _ h => h) (Or.inl ⟨by rfl, ?_⟩) hH ?_ ?_
             rotate_left
             ·
              rintro w' ⟨s0, s1, s2, s3, s4⟩
              go_simp
              with_reducible rfl
             rotate_left
             ·
              simp only [Act.put, List.setIfInBounds_toArray, List.set_cons_zero, List.set_cons_succ, i64_w, i32_w]
              rfl
             refine one_ (i := 2) (N := none) #[true, true, true, false, false] rfl rfl (by kernel_rfl) (by decide) (fun K hK => ?_)
             have hs162 : w161.cell? ⟨gc, 0, none⟩ = some (.int .i64 0) := (blk_cell Bc_.out 0).trans rfl
             have hfs162 := blk_frozen Bc_.out 0
             have hns162_0 := Nac.out
             have hns162_1 := Nbc.out
             have hns162_3 := Ndc.out
             have hns162_4 := Nec.out
             have hms162_0 := Nca.out
             have hms162_1 := Ncb.out
             have hms162_3 := Ncd.out
             have hms162_4 := Nce.out
             have hs163 : w161.cell? ⟨gc, 1, none⟩ = some (.int .i64 0) := (blk_cell Bc_.out 1).trans rfl
             have hfs163 := blk_frozen Bc_.out 1
             have hns163_0 := Nac.out
             have hns163_1 := Nbc.out
             have hns163_3 := Ndc.out
             have hns163_4 := Nec.out
             have hms163_0 := Nca.out
             have hms163_1 := Ncb.out
             have hms163_3 := Ncd.out
             have hms163_4 := Nce.out
             refine skip_ (w1 := ?_) (by rfl) rfl ?_ ?_
             rotate_left
             ·
              go_simp
              rfl
             refine hK.out _ _ ⟨((cf_ Nac.out _).trans (((cf_ Nac.out _).trans (hH.1)))), ((cf_ Nac.out _).trans (((cf_ Nac.out _).trans (hH.2.1)))), ((cf_ Nec.out _).trans (((cf_ Nec.out _).trans (hH.2.2.1)))), ((cf_ Nec.out _).trans (((cf_ Nec.out _).trans (hH.2.2.2.1)))), ((cf_ Nec.out _).trans (((cf_ Nec.out _).trans (hH.2.2.2.2))))⟩ (fun hH => ?_)
             clear hK K
             refine one_ (i := 3) (N := none) #[true, true, true, true, false] rfl rfl (by kernel_rfl) (by decide) (fun K hK => ?_)
             have hs164 : w161.cell? ⟨gd, 0, none⟩ = some (.int .i64 0) := (blk_cell Bd_.out 0).trans rfl
             have hfs164 := blk_frozen Bd_.out 0
             have hns164_0 := Nad.out
             have hns164_1 := Nbd.out
             have hns164_2 := Ncd.out
             have hns164_4 := Ned.out
             have hms164_0 := Nda.out
             have hms164_1 := Ndb.out
             have hms164_2 := Ndc.out
             have hms164_4 := Nde.out
             have hs165 : w161.cell? ⟨gd, 1, none⟩ = some (.int .i64 0) := (blk_cell Bd_.out 1).trans rfl
             have hfs165 := blk_frozen Bd_.out 1
             have hns165_0 := Nad.out
             have hns165_1 := Nbd.out
             have hns165_2 := Ncd.out
             have hns165_4 := Ned.out
             have hms165_0 := Nda.out
             have hms165_1 := Ndb.out
             have hms165_2 := Ndc.out
             have hms165_4 := Nde.out
             have hs166 : w161.cell? ⟨gd, 2, none⟩ = some (.string (⟨#[]⟩ : ByteArray)) := (blk_cell Bd_.out 2).trans rfl
             have hfs166 := blk_frozen Bd_.out 2
             have hns166_0 := Nad.out
             have hns166_1 := Nbd.out
             have hns166_2 := Ncd.out
             have hns166_4 := Ned.out
             have hms166_0 := Nda.out
             have hms166_1 := Ndb.out
             have hms166_2 := Ndc.out
             have hms166_4 := Nde.out
             refine skip_ (w1 := ?_) (by rfl) rfl ?_ ?_
             rotate_left
             ·
              go_simp
              rfl
             refine hK.out _ _ ⟨((cf_ Nad.out _).trans (((cf_ Nad.out _).trans (((cf_ Nad.out _).trans (hH.1)))))), ((cf_ Nad.out _).trans (((cf_ Nad.out _).trans (((cf_ Nad.out _).trans (hH.2.1)))))), ((cf_ Ned.out _).trans (((cf_ Ned.out _).trans (((cf_ Ned.out _).trans (hH.2.2.1)))))), ((cf_ Ned.out _).trans (((cf_ Ned.out _).trans (((cf_ Ned.out _).trans (hH.2.2.2.1)))))), ((cf_ Ned.out _).trans (((cf_ Ned.out _).trans (((cf_ Ned.out _).trans (hH.2.2.2.2))))))⟩ (fun hH => ?_)
             clear hK K
             refine pure_ (i := 4) (N := some 8) (v := ?_) (a' := ?_) #[true, true, true, true, true] rfl rfl (by kernel_rfl) (fun _ _ _ h => h) (Or.inl ⟨by rfl, ?_⟩) ?_ ?_
             rotate_left
             ·
              intro w'
              go_simp
              with_reducible rfl
             rotate_left
             ·
              simp only [Act.put, List.setIfInBounds_toArray, List.set_cons_zero, List.set_cons_succ, i64_w, i32_w]
              rfl
             refine done_ (by kernel_rfl) ?_
             try go_wp2
             refine bodyPost_ret (results_list (rs := [.cell 6 64, .cell 7 46, .tmp 8]) rfl (by simp) (.cell gc 64 #[.int .i64 a1_0, .int .i64 a1_1] (0, 0) _ rfl (by (with_reducible repeat first | refine bN_ ?_ _ | refine bD_ ?_ | refine bA_ ?_ _); refine blk_far ?_ Ncd.out _; (with_reducible repeat first | refine bN_ ?_ _ | refine bD_ ?_ | refine bA_ ?_ _); refine blk_far ?_ Ncd.out _; (with_reducible repeat first | refine bN_ ?_ _ | refine bD_ ?_ | refine bA_ ?_ _); refine blk_far ?_ Ncd.out _; (with_reducible repeat first | refine bN_ ?_ _ | refine bD_ ?_ | refine bA_ ?_ _); refine blk_put (cs := #[.int .i64 a1_0, .int .i64 0]) ?_ 1 _ rfl; (with_reducible repeat first | refine bN_ ?_ _ | refine bD_ ?_ | refine bA_ ?_ _); refine blk_put (cs := #[.int .i64 0, .int .i64 0]) ?_ 0 _ rfl; (with_reducible repeat first | refine bN_ ?_ _ | refine bD_ ?_ | refine bA_ ?_ _); exact Bc_.out) Tryd.underlying64 rfl (by kernel_rfl) (.cell gd 46 #[.int .i64 (wrap64 (rd l0 (ji149))), .int .i64 0, .string (⟨#[]⟩ : ByteArray)] (0, 0) _ rfl (by (with_reducible repeat first | refine bN_ ?_ _ | refine bD_ ?_ | refine bA_ ?_ _); refine blk_put (cs := #[.int .i64 (wrap64 (rd l0 (ji149))), .int .i64 0, .string (⟨#[]⟩ : ByteArray)]) ?_ 2 _ rfl; (with_reducible repeat first | refine bN_ ?_ _ | refine bD_ ?_ | refine bA_ ?_ _); refine blk_put (cs := #[.int .i64 (wrap64 (rd l0 (ji149))), .int .i64 0, .string (⟨#[]⟩ : ByteArray)]) ?_ 1 _ rfl; (with_reducible repeat first | refine bN_ ?_ _ | refine bD_ ?_ | refine bA_ ?_ _); refine blk_put (cs := #[.int .i64 0, .int .i64 0, .string (⟨#[]⟩ : ByteArray)]) ?_ 0 _ rfl; (with_reducible repeat first | refine bN_ ?_ _ | refine bD_ ?_ | refine bA_ ?_ _); refine blk_far ?_ Ndc.out _; (with_reducible repeat first | refine bN_ ?_ _ | refine bD_ ?_ | refine bA_ ?_ _); refine blk_far ?_ Ndc.out _; (with_reducible repeat first | refine bN_ ?_ _ | refine bD_ ?_ | refine bA_ ?_ _); exact Bd_.out) Tryd.underlying46 rfl (by kernel_rfl) (.tmp .nil)))) rfl ?_
             exact ⟨by first | rfl | (simp [errW_none, errW_some] <;> rfl) | (simp only [← hji149]; first | rfl | (simp [errW_none, errW_some] <;> rfl)) | (simp [*, errW_none, errW_some] <;> rfl), by repeat (first | (with_reducible first | exact HB.out | apply below_alloc | apply pw_below_drewN | apply below_drew1 | refine below_set ?_ GE112.out | refine below_set ?_ GE113.out | refine below_set ?_ GE114.out | refine below_set ?_ GE115.out | refine below_set ?_ GE116.out) | exact HB.out)⟩
            ·
             rw [if_neg c150] at H
             exact absurd H (by simp)
           ·
            rw [if_neg c148] at H
            have c148b0 : decide ((wrap64 (a1_1 + a2_1)) < (l0.length : Int)) = false := decide_eq_false c148
            clear c148
            simp only [Option.some.injEq, Prod.mk.injEq] at H
            obtain ⟨rfl, rfl, rfl, rfl, rfl, rfl⟩ := H
            have hnb167 := Nba.out
            have hnc167 := Nab.out
            have hnb168 := Nbc.out
            have hnc168 := Ncb.out
            have hnb169 := Nbd.out
            have hnc169 := Ndb.out
            have hnb170 := Nbe.out
            have hnc170 := Neb.out
            have hcz171_0 : wc.cell? ⟨gb, 0, none⟩ = some (.int .i64 a2_0) := (blk_cell Bb_.out 0).trans rfl
            have hcz171_1 : wc.cell? ⟨gb, 1, none⟩ = some (.int .i64 a2_1) := (blk_cell Bb_.out 1).trans rfl
            have hfz171_0 := blk_frozen Bb_.out 0
            have hfz171_1 := blk_frozen Bb_.out 1
            try go_wp2
            have m0 := Aside0.mk (blk_drew Ba_.out)
            have m1 := Aside0.mk (blk_drew Bb_.out)
            have m2 := Aside0.mk (blk_drew Bc_.out)
            have m3 := Aside0.mk (blk_drew Bd_.out)
            have m4 := Aside0.mk (blk_drew Be_.out)
            have m5 := Aside0.mk (below_drew1 HB.out)
            clear Ba_
            clear Bb_
            clear Bc_
            clear Bd_
            clear Be_
            clear HB
            have Ba_ := m0
            have Bb_ := m1
            have Bc_ := m2
            have Bd_ := m3
            have Be_ := m4
            have HB := m5
            clear m0 m1 m2 m3 m4 m5
            refine start_ (n := 5) (S := fun w' => w'.cell? ⟨ga, 0, none⟩ = some (.int .i64 a1_0) ∧ w'.cell? ⟨ga, 1, none⟩ = some (.int .i64 a1_1) ∧ w'.cell? ⟨ge, 0, none⟩ = some (.int .i64 0) ∧ w'.cell? ⟨ge, 1, none⟩ = some (.int .i64 0) ∧ w'.cell? ⟨ge, 2, none⟩ = some (.string (⟨#[]⟩ : ByteArray))) (ds := []) #[false, false, false, false, false] (by kernel_rfl) rfl rfl ⟨(blk_cell Ba_.out 0).trans rfl, (blk_cell Ba_.out 1).trans rfl, (blk_cell Be_.out 0).trans rfl, (blk_cell Be_.out 1).trans rfl, (blk_cell Be_.out 2).trans rfl⟩ (fun hH => ?_)
            generalize wc.drew = w172 at Ba_ Bb_ Bc_ Bd_ Be_ HB hH ⊢
            refine take_ (i := 0) (N := some 191) (v := ?_) (a' := ?_) #[true, false, false, false, false] rfl rfl (by kernel_rfl) (fun _ _ _ h => h) (Or.inl ⟨by rfl, ?_⟩) hH ?_ ?_
            rotate_left
            ·
             rintro w' ⟨s0, s1, s2, s3, s4⟩
             go_simp
             with_reducible rfl
            rotate_left
            ·
             simp only [Act.put, List.setIfInBounds_toArray, List.set_cons_zero, List.set_cons_succ, i64_w, i32_w]
             rfl
            refine take_ (i := 1) (N := some 192) (v := ?_) (a' := ?_) #[true, true, false, false, false] rfl rfl (by kernel_rfl) (fun _ _ _ h => h) (Or.inl ⟨by rfl, ?_⟩) hH ?_ ?_
            rotate_left
            ·
             rintro w' ⟨s0, s1, s2, s3, s4⟩
             go_simp
             with_reducible rfl
            rotate_left
            ·
             simp only [Act.put, List.setIfInBounds_toArray, List.set_cons_zero, List.set_cons_succ, i64_w, i32_w]
             rfl
            refine one_ (i := 2) (N := none) #[true, true, true, false, false] rfl rfl (by kernel_rfl) (by decide) (fun K hK => ?_)
            have hs173 : w172.cell? ⟨gc, 0, none⟩ = some (.int .i64 0) := (blk_cell Bc_.out 0).trans rfl
            have hfs173 := blk_frozen Bc_.out 0
            have hns173_0 := Nac.out
            have hns173_1 := Nbc.out
            have hns173_3 := Ndc.out
            have hns173_4 := Nec.out
            have hms173_0 := Nca.out
            have hms173_1 := Ncb.out
            have hms173_3 := Ncd.out
            have hms173_4 := Nce.out
            have hs174 : w172.cell? ⟨gc, 1, none⟩ = some (.int .i64 0) := (blk_cell Bc_.out 1).trans rfl
            have hfs174 := blk_frozen Bc_.out 1
            have hns174_0 := Nac.out
            have hns174_1 := Nbc.out
            have hns174_3 := Ndc.out
            have hns174_4 := Nec.out
            have hms174_0 := Nca.out
            have hms174_1 := Ncb.out
            have hms174_3 := Ncd.out
            have hms174_4 := Nce.out
            refine skip_ (w1 := ?_) (by rfl) rfl ?_ ?_
            rotate_left
            ·
             go_simp
             rfl
            refine hK.out _ _ ⟨((cf_ Nac.out _).trans (((cf_ Nac.out _).trans (hH.1)))), ((cf_ Nac.out _).trans (((cf_ Nac.out _).trans (hH.2.1)))), ((cf_ Nec.out _).trans (((cf_ Nec.out _).trans (hH.2.2.1)))), ((cf_ Nec.out _).trans (((cf_ Nec.out _).trans (hH.2.2.2.1)))), ((cf_ Nec.out _).trans (((cf_ Nec.out _).trans (hH.2.2.2.2))))⟩ (fun hH => ?_)
            clear hK K
            refine one_ (i := 3) (N := none) #[true, true, true, true, false] rfl rfl (by kernel_rfl) (by decide) (fun K hK => ?_)
            have hs175 : w172.cell? ⟨gd, 0, none⟩ = some (.int .i64 0) := (blk_cell Bd_.out 0).trans rfl
            have hfs175 := blk_frozen Bd_.out 0
            have hns175_0 := Nad.out
            have hns175_1 := Nbd.out
            have hns175_2 := Ncd.out
            have hns175_4 := Ned.out
            have hms175_0 := Nda.out
            have hms175_1 := Ndb.out
            have hms175_2 := Ndc.out
            have hms175_4 := Nde.out
            have hs176 : w172.cell? ⟨gd, 1, none⟩ = some (.int .i64 0) := (blk_cell Bd_.out 1).trans rfl
            have hfs176 := blk_frozen Bd_.out 1
            have hns176_0 := Nad.out
            have hns176_1 := Nbd.out
            have hns176_2 := Ncd.out
            have hns176_4 := Ned.out
            have hms176_0 := Nda.out
            have hms176_1 := Ndb.out
            have hms176_2 := Ndc.out
            have hms176_4 := Nde.out
            have hs177 : w172.cell? ⟨gd, 2, none⟩ = some (.string (⟨#[]⟩ : ByteArray)) := (blk_cell Bd_.out 2).trans rfl
            have hfs177 := blk_frozen Bd_.out 2
            have hns177_0 := Nad.out
            have hns177_1 := Nbd.out
            have hns177_2 := Ncd.out
            have hns177_4 := Ned.out
            have hms177_0 := Nda.out
            have hms177_1 := Ndb.out
            have hms177_2 := Ndc.out
            have hms177_4 := Nde.out
            refine skip_ (w1 := ?_) (by rfl) rfl ?_ ?_
            rotate_left
            ·
             go_simp
             rfl
            refine hK.out _ _ ⟨((cf_ Nad.out _).trans (((cf_ Nad.out _).trans (((cf_ Nad.out _).trans (hH.1)))))), ((cf_ Nad.out _).trans (((cf_ Nad.out _).trans (((cf_ Nad.out _).trans (hH.2.1)))))), ((cf_ Ned.out _).trans (((cf_ Ned.out _).trans (((cf_ Ned.out _).trans (hH.2.2.1)))))), ((cf_ Ned.out _).trans (((cf_ Ned.out _).trans (((cf_ Ned.out _).trans (hH.2.2.2.1)))))), ((cf_ Ned.out _).trans (((cf_ Ned.out _).trans (((cf_ Ned.out _).trans (hH.2.2.2.2))))))⟩ (fun hH => ?_)
            clear hK K
            refine pure_ (i := 4) (N := some 8) (v := ?_) (a' := ?_) #[true, true, true, true, true] rfl rfl (by kernel_rfl) (fun _ _ _ h => h) (Or.inl ⟨by rfl, ?_⟩) ?_ ?_
            rotate_left
            ·
             intro w'
             go_simp
             with_reducible rfl
            rotate_left
            ·
             simp only [Act.put, List.setIfInBounds_toArray, List.set_cons_zero, List.set_cons_succ, i64_w, i32_w]
             rfl
            refine done_ (by kernel_rfl) ?_
            try go_wp2
            refine bodyPost_ret (results_list (rs := [.cell 6 64, .cell 7 46, .tmp 8]) rfl (by simp) (.cell gc 64 #[.int .i64 a1_0, .int .i64 a1_1] (0, 0) _ rfl (by (with_reducible repeat first | refine bN_ ?_ _ | refine bD_ ?_ | refine bA_ ?_ _); refine blk_far ?_ Ncd.out _; (with_reducible repeat first | refine bN_ ?_ _ | refine bD_ ?_ | refine bA_ ?_ _); refine blk_far ?_ Ncd.out _; (with_reducible repeat first | refine bN_ ?_ _ | refine bD_ ?_ | refine bA_ ?_ _); refine blk_far ?_ Ncd.out _; (with_reducible repeat first | refine bN_ ?_ _ | refine bD_ ?_ | refine bA_ ?_ _); refine blk_put (cs := #[.int .i64 a1_0, .int .i64 0]) ?_ 1 _ rfl; (with_reducible repeat first | refine bN_ ?_ _ | refine bD_ ?_ | refine bA_ ?_ _); refine blk_put (cs := #[.int .i64 0, .int .i64 0]) ?_ 0 _ rfl; (with_reducible repeat first | refine bN_ ?_ _ | refine bD_ ?_ | refine bA_ ?_ _); exact Bc_.out) Tryd.underlying64 rfl (by kernel_rfl) (.cell gd 46 #[.int .i64 0, .int .i64 0, .string (⟨#[]⟩ : ByteArray)] (0, 0) _ rfl (by (with_reducible repeat first | refine bN_ ?_ _ | refine bD_ ?_ | refine bA_ ?_ _); refine blk_put (cs := #[.int .i64 0, .int .i64 0, .string (⟨#[]⟩ : ByteArray)]) ?_ 2 _ rfl; (with_reducible repeat first | refine bN_ ?_ _ | refine bD_ ?_ | refine bA_ ?_ _); refine blk_put (cs := #[.int .i64 0, .int .i64 0, .string (⟨#[]⟩ : ByteArray)]) ?_ 1 _ rfl; (with_reducible repeat first | refine bN_ ?_ _ | refine bD_ ?_ | refine bA_ ?_ _); refine blk_put (cs := #[.int .i64 0, .int .i64 0, .string (⟨#[]⟩ : ByteArray)]) ?_ 0 _ rfl; (with_reducible repeat first | refine bN_ ?_ _ | refine bD_ ?_ | refine bA_ ?_ _); refine blk_far ?_ Ndc.out _; (with_reducible repeat first | refine bN_ ?_ _ | refine bD_ ?_ | refine bA_ ?_ _); refine blk_far ?_ Ndc.out _; (with_reducible repeat first | refine bN_ ?_ _ | refine bD_ ?_ | refine bA_ ?_ _); exact Bd_.out) Tryd.underlying46 rfl (by kernel_rfl) (.tmp .nil)))) rfl ?_
            exact ⟨by first | rfl | (simp [errW_none, errW_some] <;> rfl), by repeat (first | (with_reducible first | exact HB.out | apply below_alloc | apply pw_below_drewN | apply below_drew1 | refine below_set ?_ GE112.out | refine below_set ?_ GE113.out | refine below_set ?_ GE114.out | refine below_set ?_ GE115.out | refine below_set ?_ GE116.out) | exact HB.out)⟩
          ·
           replace c147 := Bool.eq_false_iff.mpr c147
           subst c147
           have H1 : (some (a1_0, a1_1, 0, 0, (⟨#[]⟩ : ByteArray), false)) = some (r1, r2, r3, r4, r5, r6) := by rw [if_neg (show ¬ (false = true) by decide)] at H; exact H
           clear H
           have H := H1
           clear H1
           simp only [Option.some.injEq, Prod.mk.injEq] at H
           obtain ⟨rfl, rfl, rfl, rfl, rfl, rfl⟩ := H
           have hnb178 := Nba.out
           have hnc178 := Nab.out
           have hnb179 := Nbc.out
           have hnc179 := Ncb.out
           have hnb180 := Nbd.out
           have hnc180 := Ndb.out
           have hnb181 := Nbe.out
           have hnc181 := Neb.out
           have hcz182_0 : wc.cell? ⟨gb, 0, none⟩ = some (.int .i64 a2_0) := (blk_cell Bb_.out 0).trans rfl
           have hcz182_1 : wc.cell? ⟨gb, 1, none⟩ = some (.int .i64 a2_1) := (blk_cell Bb_.out 1).trans rfl
           have hfz182_0 := blk_frozen Bb_.out 0
           have hfz182_1 := blk_frozen Bb_.out 1
           try go_wp2
           have m0 := Aside0.mk (blk_drew Ba_.out)
           have m1 := Aside0.mk (blk_drew Bb_.out)
           have m2 := Aside0.mk (blk_drew Bc_.out)
           have m3 := Aside0.mk (blk_drew Bd_.out)
           have m4 := Aside0.mk (blk_drew Be_.out)
           have m5 := Aside0.mk (below_drew1 HB.out)
           clear Ba_
           clear Bb_
           clear Bc_
           clear Bd_
           clear Be_
           clear HB
           have Ba_ := m0
           have Bb_ := m1
           have Bc_ := m2
           have Bd_ := m3
           have Be_ := m4
           have HB := m5
           clear m0 m1 m2 m3 m4 m5
           refine start_ (n := 5) (S := fun w' => w'.cell? ⟨ga, 0, none⟩ = some (.int .i64 a1_0) ∧ w'.cell? ⟨ga, 1, none⟩ = some (.int .i64 a1_1) ∧ w'.cell? ⟨ge, 0, none⟩ = some (.int .i64 0) ∧ w'.cell? ⟨ge, 1, none⟩ = some (.int .i64 0) ∧ w'.cell? ⟨ge, 2, none⟩ = some (.string (⟨#[]⟩ : ByteArray))) (ds := []) #[false, false, false, false, false] (by kernel_rfl) rfl rfl ⟨(blk_cell Ba_.out 0).trans rfl, (blk_cell Ba_.out 1).trans rfl, (blk_cell Be_.out 0).trans rfl, (blk_cell Be_.out 1).trans rfl, (blk_cell Be_.out 2).trans rfl⟩ (fun hH => ?_)
           generalize wc.drew = w183 at Ba_ Bb_ Bc_ Bd_ Be_ HB hH ⊢
           refine take_ (i := 0) (N := some 102) (v := ?_) (a' := ?_) #[true, false, false, false, false] rfl rfl (by kernel_rfl) (fun _ _ _ h => h) (Or.inl ⟨by rfl, ?_⟩) hH ?_ ?_
           rotate_left
           ·
            rintro w' ⟨s0, s1, s2, s3, s4⟩
            go_simp
            with_reducible rfl
           rotate_left
           ·
            simp only [Act.put, List.setIfInBounds_toArray, List.set_cons_zero, List.set_cons_succ, i64_w, i32_w]
            rfl
           refine take_ (i := 1) (N := some 103) (v := ?_) (a' := ?_) #[true, true, false, false, false] rfl rfl (by kernel_rfl) (fun _ _ _ h => h) (Or.inl ⟨by rfl, ?_⟩) hH ?_ ?_
           rotate_left
           ·
            rintro w' ⟨s0, s1, s2, s3, s4⟩
            go_simp
            with_reducible rfl
           rotate_left
           ·
            simp only [Act.put, List.setIfInBounds_toArray, List.set_cons_zero, List.set_cons_succ, i64_w, i32_w]
            rfl
           refine one_ (i := 2) (N := none) #[true, true, true, false, false] rfl rfl (by kernel_rfl) (by decide) (fun K hK => ?_)
           have hs184 : w183.cell? ⟨gc, 0, none⟩ = some (.int .i64 0) := (blk_cell Bc_.out 0).trans rfl
           have hfs184 := blk_frozen Bc_.out 0
           have hns184_0 := Nac.out
           have hns184_1 := Nbc.out
           have hns184_3 := Ndc.out
           have hns184_4 := Nec.out
           have hms184_0 := Nca.out
           have hms184_1 := Ncb.out
           have hms184_3 := Ncd.out
           have hms184_4 := Nce.out
           have hs185 : w183.cell? ⟨gc, 1, none⟩ = some (.int .i64 0) := (blk_cell Bc_.out 1).trans rfl
           have hfs185 := blk_frozen Bc_.out 1
           have hns185_0 := Nac.out
           have hns185_1 := Nbc.out
           have hns185_3 := Ndc.out
           have hns185_4 := Nec.out
           have hms185_0 := Nca.out
           have hms185_1 := Ncb.out
           have hms185_3 := Ncd.out
           have hms185_4 := Nce.out
           refine skip_ (w1 := ?_) (by rfl) rfl ?_ ?_
           rotate_left
           ·
            go_simp
            rfl
           refine hK.out _ _ ⟨((cf_ Nac.out _).trans (((cf_ Nac.out _).trans (hH.1)))), ((cf_ Nac.out _).trans (((cf_ Nac.out _).trans (hH.2.1)))), ((cf_ Nec.out _).trans (((cf_ Nec.out _).trans (hH.2.2.1)))), ((cf_ Nec.out _).trans (((cf_ Nec.out _).trans (hH.2.2.2.1)))), ((cf_ Nec.out _).trans (((cf_ Nec.out _).trans (hH.2.2.2.2))))⟩ (fun hH => ?_)
           clear hK K
           refine one_ (i := 3) (N := none) #[true, true, true, true, false] rfl rfl (by kernel_rfl) (by decide) (fun K hK => ?_)
           have hs186 : w183.cell? ⟨gd, 0, none⟩ = some (.int .i64 0) := (blk_cell Bd_.out 0).trans rfl
           have hfs186 := blk_frozen Bd_.out 0
           have hns186_0 := Nad.out
           have hns186_1 := Nbd.out
           have hns186_2 := Ncd.out
           have hns186_4 := Ned.out
           have hms186_0 := Nda.out
           have hms186_1 := Ndb.out
           have hms186_2 := Ndc.out
           have hms186_4 := Nde.out
           have hs187 : w183.cell? ⟨gd, 1, none⟩ = some (.int .i64 0) := (blk_cell Bd_.out 1).trans rfl
           have hfs187 := blk_frozen Bd_.out 1
           have hns187_0 := Nad.out
           have hns187_1 := Nbd.out
           have hns187_2 := Ncd.out
           have hns187_4 := Ned.out
           have hms187_0 := Nda.out
           have hms187_1 := Ndb.out
           have hms187_2 := Ndc.out
           have hms187_4 := Nde.out
           have hs188 : w183.cell? ⟨gd, 2, none⟩ = some (.string (⟨#[]⟩ : ByteArray)) := (blk_cell Bd_.out 2).trans rfl
           have hfs188 := blk_frozen Bd_.out 2
           have hns188_0 := Nad.out
           have hns188_1 := Nbd.out
           have hns188_2 := Ncd.out
           have hns188_4 := Ned.out
           have hms188_0 := Nda.out
           have hms188_1 := Ndb.out
           have hms188_2 := Ndc.out
           have hms188_4 := Nde.out
           refine skip_ (w1 := ?_) (by rfl) rfl ?_ ?_
           rotate_left
           ·
            go_simp
            rfl
           refine hK.out _ _ ⟨((cf_ Nad.out _).trans (((cf_ Nad.out _).trans (((cf_ Nad.out _).trans (hH.1)))))), ((cf_ Nad.out _).trans (((cf_ Nad.out _).trans (((cf_ Nad.out _).trans (hH.2.1)))))), ((cf_ Ned.out _).trans (((cf_ Ned.out _).trans (((cf_ Ned.out _).trans (hH.2.2.1)))))), ((cf_ Ned.out _).trans (((cf_ Ned.out _).trans (((cf_ Ned.out _).trans (hH.2.2.2.1)))))), ((cf_ Ned.out _).trans (((cf_ Ned.out _).trans (((cf_ Ned.out _).trans (hH.2.2.2.2))))))⟩ (fun hH => ?_)
           clear hK K
           refine pure_ (i := 4) (N := some 8) (v := ?_) (a' := ?_) #[true, true, true, true, true] rfl rfl (by kernel_rfl) (fun _ _ _ h => h) (Or.inl ⟨by rfl, ?_⟩) ?_ ?_
           rotate_left
           ·
            intro w'
            go_simp
            with_reducible rfl
           rotate_left
           ·
            simp only [Act.put, List.setIfInBounds_toArray, List.set_cons_zero, List.set_cons_succ, i64_w, i32_w]
            rfl
           refine done_ (by kernel_rfl) ?_
           try go_wp2
           refine bodyPost_ret (results_list (rs := [.cell 6 64, .cell 7 46, .tmp 8]) rfl (by simp) (.cell gc 64 #[.int .i64 a1_0, .int .i64 a1_1] (0, 0) _ rfl (by (with_reducible repeat first | refine bN_ ?_ _ | refine bD_ ?_ | refine bA_ ?_ _); refine blk_far ?_ Ncd.out _; (with_reducible repeat first | refine bN_ ?_ _ | refine bD_ ?_ | refine bA_ ?_ _); refine blk_far ?_ Ncd.out _; (with_reducible repeat first | refine bN_ ?_ _ | refine bD_ ?_ | refine bA_ ?_ _); refine blk_far ?_ Ncd.out _; (with_reducible repeat first | refine bN_ ?_ _ | refine bD_ ?_ | refine bA_ ?_ _); refine blk_put (cs := #[.int .i64 a1_0, .int .i64 0]) ?_ 1 _ rfl; (with_reducible repeat first | refine bN_ ?_ _ | refine bD_ ?_ | refine bA_ ?_ _); refine blk_put (cs := #[.int .i64 0, .int .i64 0]) ?_ 0 _ rfl; (with_reducible repeat first | refine bN_ ?_ _ | refine bD_ ?_ | refine bA_ ?_ _); exact Bc_.out) Tryd.underlying64 rfl (by kernel_rfl) (.cell gd 46 #[.int .i64 0, .int .i64 0, .string (⟨#[]⟩ : ByteArray)] (0, 0) _ rfl (by (with_reducible repeat first | refine bN_ ?_ _ | refine bD_ ?_ | refine bA_ ?_ _); refine blk_put (cs := #[.int .i64 0, .int .i64 0, .string (⟨#[]⟩ : ByteArray)]) ?_ 2 _ rfl; (with_reducible repeat first | refine bN_ ?_ _ | refine bD_ ?_ | refine bA_ ?_ _); refine blk_put (cs := #[.int .i64 0, .int .i64 0, .string (⟨#[]⟩ : ByteArray)]) ?_ 1 _ rfl; (with_reducible repeat first | refine bN_ ?_ _ | refine bD_ ?_ | refine bA_ ?_ _); refine blk_put (cs := #[.int .i64 0, .int .i64 0, .string (⟨#[]⟩ : ByteArray)]) ?_ 0 _ rfl; (with_reducible repeat first | refine bN_ ?_ _ | refine bD_ ?_ | refine bA_ ?_ _); refine blk_far ?_ Ndc.out _; (with_reducible repeat first | refine bN_ ?_ _ | refine bD_ ?_ | refine bA_ ?_ _); refine blk_far ?_ Ndc.out _; (with_reducible repeat first | refine bN_ ?_ _ | refine bD_ ?_ | refine bA_ ?_ _); exact Bd_.out) Tryd.underlying46 rfl (by kernel_rfl) (.tmp .nil)))) rfl ?_
           exact ⟨by first | rfl | (simp [errW_none, errW_some] <;> rfl), by repeat (first | (with_reducible first | exact HB.out | apply below_alloc | apply pw_below_drewN | apply below_drew1 | refine below_set ?_ GE112.out | refine below_set ?_ GE113.out | refine below_set ?_ GE114.out | refine below_set ?_ GE115.out | refine below_set ?_ GE116.out) | exact HB.out)⟩
         ·
          rw [if_neg c146] at H
          have c146b0 : (a2_0 == 4) = false := beq_eq_false_iff_ne.mpr c146
          have c146b1 : (a2_0 != 4) = true := bne_iff_ne.mpr c146
          by_cases c189 : a2_0 = 5
          ·
           rw [if_pos c189] at H
           have c189b0 : (a2_0 == 5) = true := beq_iff_eq.mpr c189
           have c189b1 : (a2_0 != 5) = false := bne_eq_false_iff_eq.mpr c189
           clear c189
           by_cases c190 : x11_3 = true
           ·
            subst c190
            have H1 : (if (wrap64 (a1_1 + a2_1)) = (l0.length : Int) then (some (a1_0, a1_1, 1, 0, (⟨#[]⟩ : ByteArray), true)) else (some (a1_0, a1_1, 0, 0, (⟨#[]⟩ : ByteArray), true))) = some (r1, r2, r3, r4, r5, r6) := by rw [if_pos rfl] at H; exact H
            clear H
            have H := H1
            clear H1
            by_cases c191 : (wrap64 (a1_1 + a2_1)) = (l0.length : Int)
            ·
             rw [if_pos c191] at H
             have c191b0 : ((wrap64 (a1_1 + a2_1)) == (l0.length : Int)) = true := beq_iff_eq.mpr c191
             have c191b1 : ((wrap64 (a1_1 + a2_1)) != (l0.length : Int)) = false := bne_eq_false_iff_eq.mpr c191
             clear c191
             simp only [Option.some.injEq, Prod.mk.injEq] at H
             obtain ⟨rfl, rfl, rfl, rfl, rfl, rfl⟩ := H
             have hnb192 := Nba.out
             have hnc192 := Nab.out
             have hnb193 := Nbc.out
             have hnc193 := Ncb.out
             have hnb194 := Nbd.out
             have hnc194 := Ndb.out
             have hnb195 := Nbe.out
             have hnc195 := Neb.out
             have hcz196_0 : wc.cell? ⟨gb, 0, none⟩ = some (.int .i64 a2_0) := (blk_cell Bb_.out 0).trans rfl
             have hcz196_1 : wc.cell? ⟨gb, 1, none⟩ = some (.int .i64 a2_1) := (blk_cell Bb_.out 1).trans rfl
             have hfz196_0 := blk_frozen Bb_.out 0
             have hfz196_1 := blk_frozen Bb_.out 1
             have hnb197 := Nea.out
             have hnc197 := Nae.out
             have hnb198 := Nec.out
             have hnc198 := Nce.out
             have hnb199 := Ned.out
             have hnc199 := Nde.out
             have hcz200_0 : wc.cell? ⟨ge, 0, none⟩ = some (.int .i64 0) := (blk_cell Be_.out 0).trans rfl
             have hcz200_1 : wc.cell? ⟨ge, 1, none⟩ = some (.int .i64 0) := (blk_cell Be_.out 1).trans rfl
             have hcz200_2 : wc.cell? ⟨ge, 2, none⟩ = some (.string (⟨#[]⟩ : ByteArray)) := (blk_cell Be_.out 2).trans rfl
             have hfz200_0 := blk_frozen Be_.out 0
             have hfz200_1 := blk_frozen Be_.out 1
             have hfz200_2 := blk_frozen Be_.out 2
             try go_wp2
             have m0 : Aside0 ((wc.setCell ⟨ge, 0, none⟩ (.int .i64 1)).heap[ga]? = some (.cells #[.int .i64 a1_0, .int .i64 a1_1] 64 (0, 0))) := ⟨by (with_reducible repeat first | refine bN_ ?_ _ | refine bD_ ?_ | refine bA_ ?_ _); refine blk_far ?_ Nae.out _; (with_reducible repeat first | refine bN_ ?_ _ | refine bD_ ?_ | refine bA_ ?_ _); exact Ba_.out⟩
             have m1 : Aside0 ((wc.setCell ⟨ge, 0, none⟩ (.int .i64 1)).heap[gb]? = some (.cells #[.int .i64 a2_0, .int .i64 a2_1] 44 (0, 0))) := ⟨by (with_reducible repeat first | refine bN_ ?_ _ | refine bD_ ?_ | refine bA_ ?_ _); refine blk_far ?_ Nbe.out _; (with_reducible repeat first | refine bN_ ?_ _ | refine bD_ ?_ | refine bA_ ?_ _); exact Bb_.out⟩
             have m2 : Aside0 ((wc.setCell ⟨ge, 0, none⟩ (.int .i64 1)).heap[gc]? = some (.cells #[.int .i64 0, .int .i64 0] 64 (0, 0))) := ⟨by (with_reducible repeat first | refine bN_ ?_ _ | refine bD_ ?_ | refine bA_ ?_ _); refine blk_far ?_ Nce.out _; (with_reducible repeat first | refine bN_ ?_ _ | refine bD_ ?_ | refine bA_ ?_ _); exact Bc_.out⟩
             have m3 : Aside0 ((wc.setCell ⟨ge, 0, none⟩ (.int .i64 1)).heap[gd]? = some (.cells #[.int .i64 0, .int .i64 0, .string (⟨#[]⟩ : ByteArray)] 46 (0, 0))) := ⟨by (with_reducible repeat first | refine bN_ ?_ _ | refine bD_ ?_ | refine bA_ ?_ _); refine blk_far ?_ Nde.out _; (with_reducible repeat first | refine bN_ ?_ _ | refine bD_ ?_ | refine bA_ ?_ _); exact Bd_.out⟩
             have m4 : Aside0 ((wc.setCell ⟨ge, 0, none⟩ (.int .i64 1)).heap[ge]? = some (.cells #[.int .i64 1, .int .i64 0, .string (⟨#[]⟩ : ByteArray)] 46 (0, 0))) := ⟨by (with_reducible repeat first | refine bN_ ?_ _ | refine bD_ ?_ | refine bA_ ?_ _); refine blk_put (cs := #[.int .i64 0, .int .i64 0, .string (⟨#[]⟩ : ByteArray)]) ?_ 0 _ rfl; (with_reducible repeat first | refine bN_ ?_ _ | refine bD_ ?_ | refine bA_ ?_ _); exact Be_.out⟩
             have m5 : Aside0 (Below w.heap.size w (wc.setCell ⟨ge, 0, none⟩ (.int .i64 1))) := ⟨by repeat (first | (with_reducible first | exact HB.out | apply below_alloc | apply pw_below_drewN | apply below_drew1 | refine below_set ?_ GE112.out | refine below_set ?_ GE113.out | refine below_set ?_ GE114.out | refine below_set ?_ GE115.out | refine below_set ?_ GE116.out) | exact HB.out)⟩
             (try clear Ba_)
             (try clear Bb_)
             (try clear Bc_)
             (try clear Bd_)
             (try clear Be_)
             (try clear HB)
             generalize (wc.setCell ⟨ge, 0, none⟩ (.int .i64 1)) = w201 at m0 m1 m2 m3 m4 m5 ⊢
             have Ba_ := m0
             have Bb_ := m1
             have Bc_ := m2
             have Bd_ := m3
             have Be_ := m4
             have HB := m5
             clear m0 m1 m2 m3 m4 m5
             have m0 := Aside0.mk (blk_drew Ba_.out)
             have m1 := Aside0.mk (blk_drew Bb_.out)
             have m2 := Aside0.mk (blk_drew Bc_.out)
             have m3 := Aside0.mk (blk_drew Bd_.out)
             have m4 := Aside0.mk (blk_drew Be_.out)
             have m5 := Aside0.mk (below_drew1 HB.out)
             clear Ba_
             clear Bb_
             clear Bc_
             clear Bd_
             clear Be_
             clear HB
             have Ba_ := m0
             have Bb_ := m1
             have Bc_ := m2
             have Bd_ := m3
             have Be_ := m4
             have HB := m5
             clear m0 m1 m2 m3 m4 m5
             refine start_ (n := 6) (S := fun w' => w'.cell? ⟨ga, 0, none⟩ = some (.int .i64 a1_0) ∧ w'.cell? ⟨ga, 1, none⟩ = some (.int .i64 a1_1) ∧ w'.cell? ⟨ge, 0, none⟩ = some (.int .i64 1) ∧ w'.cell? ⟨ge, 1, none⟩ = some (.int .i64 0) ∧ w'.cell? ⟨ge, 2, none⟩ = some (.string (⟨#[]⟩ : ByteArray))) (ds := []) #[false, false, false, false, false, false] (by kernel_rfl) rfl rfl ⟨(blk_cell Ba_.out 0).trans rfl, (blk_cell Ba_.out 1).trans rfl, (blk_cell Be_.out 0).trans rfl, (blk_cell Be_.out 1).trans rfl, (blk_cell Be_.out 2).trans rfl⟩ (fun hH => ?_)
             generalize w201.drew = w202 at Ba_ Bb_ Bc_ Bd_ Be_ HB hH ⊢
             refine pure_ (i := 2) (N := some 126) (v := ?_) (a' := ?_) #[false, false, true, false, false, false] rfl rfl (by kernel_rfl) (fun _ _ _ h => h) (Or.inl ⟨by rfl, ?_⟩) ?_ ?_
             rotate_left
             ·
              intro w'
              go_simp
              with_reducible rfl
             rotate_left
             ·
              simp only [Act.put, List.setIfInBounds_toArray, List.set_cons_zero, List.set_cons_succ, i64_w, i32_w]
              rfl
             refine take_ (i := 0) (N := some 124) (v := ?_) (a' := ?_) #[true, false, true, false, false, false] rfl rfl (by kernel_rfl) (fun _ _ _ h => h) (Or.inl ⟨by rfl, ?_⟩) hH ?_ ?_
             rotate_left
             ·
              rintro w' ⟨s0, s1, s2, s3, s4⟩
              go_simp
              with_reducible rfl
             rotate_left
             ·
              simp only [Act.put, List.setIfInBounds_toArray, List.set_cons_zero, List.set_cons_succ, i64_w, i32_w]
              rfl
             refine take_ (i := 1) (N := some 125) (v := ?_) (a' := ?_) #[true, true, true, false, false, false] rfl rfl (by kernel_rfl) (fun _ _ _ h => h) (Or.inl ⟨by rfl, ?_⟩) hH ?_ ?_
             rotate_left
             ·
              rintro w' ⟨s0, s1, s2, s3, s4⟩
              go_simp
              with_reducible rfl
             rotate_left
             ·
              simp only [Act.put, List.setIfInBounds_toArray, List.set_cons_zero, List.set_cons_succ, i64_w, i32_w]
              rfl
             refine one_ (i := 3) (N := none) #[true, true, true, true, false, false] rfl rfl (by kernel_rfl) (by decide) (fun K hK => ?_)
             have hs203 : w202.cell? ⟨gc, 0, none⟩ = some (.int .i64 0) := (blk_cell Bc_.out 0).trans rfl
             have hfs203 := blk_frozen Bc_.out 0
             have hns203_0 := Nac.out
             have hns203_1 := Nbc.out
             have hns203_3 := Ndc.out
             have hns203_4 := Nec.out
             have hms203_0 := Nca.out
             have hms203_1 := Ncb.out
             have hms203_3 := Ncd.out
             have hms203_4 := Nce.out
             have hs204 : w202.cell? ⟨gc, 1, none⟩ = some (.int .i64 0) := (blk_cell Bc_.out 1).trans rfl
             have hfs204 := blk_frozen Bc_.out 1
             have hns204_0 := Nac.out
             have hns204_1 := Nbc.out
             have hns204_3 := Ndc.out
             have hns204_4 := Nec.out
             have hms204_0 := Nca.out
             have hms204_1 := Ncb.out
             have hms204_3 := Ncd.out
             have hms204_4 := Nce.out
             refine skip_ (w1 := ?_) (by rfl) rfl ?_ ?_
             rotate_left
             ·
              go_simp
              rfl
             refine hK.out _ _ ⟨((cf_ Nac.out _).trans (((cf_ Nac.out _).trans (hH.1)))), ((cf_ Nac.out _).trans (((cf_ Nac.out _).trans (hH.2.1)))), ((cf_ Nec.out _).trans (((cf_ Nec.out _).trans (hH.2.2.1)))), ((cf_ Nec.out _).trans (((cf_ Nec.out _).trans (hH.2.2.2.1)))), ((cf_ Nec.out _).trans (((cf_ Nec.out _).trans (hH.2.2.2.2))))⟩ (fun hH => ?_)
             clear hK K
             refine one_ (i := 4) (N := none) #[true, true, true, true, true, false] rfl rfl (by kernel_rfl) (by decide) (fun K hK => ?_)
             have hs205 : w202.cell? ⟨gd, 0, none⟩ = some (.int .i64 0) := (blk_cell Bd_.out 0).trans rfl
             have hfs205 := blk_frozen Bd_.out 0
             have hns205_0 := Nad.out
             have hns205_1 := Nbd.out
             have hns205_2 := Ncd.out
             have hns205_4 := Ned.out
             have hms205_0 := Nda.out
             have hms205_1 := Ndb.out
             have hms205_2 := Ndc.out
             have hms205_4 := Nde.out
             have hs206 : w202.cell? ⟨gd, 1, none⟩ = some (.int .i64 0) := (blk_cell Bd_.out 1).trans rfl
             have hfs206 := blk_frozen Bd_.out 1
             have hns206_0 := Nad.out
             have hns206_1 := Nbd.out
             have hns206_2 := Ncd.out
             have hns206_4 := Ned.out
             have hms206_0 := Nda.out
             have hms206_1 := Ndb.out
             have hms206_2 := Ndc.out
             have hms206_4 := Nde.out
             have hs207 : w202.cell? ⟨gd, 2, none⟩ = some (.string (⟨#[]⟩ : ByteArray)) := (blk_cell Bd_.out 2).trans rfl
             have hfs207 := blk_frozen Bd_.out 2
             have hns207_0 := Nad.out
             have hns207_1 := Nbd.out
             have hns207_2 := Ncd.out
             have hns207_4 := Ned.out
             have hms207_0 := Nda.out
             have hms207_1 := Ndb.out
             have hms207_2 := Ndc.out
             have hms207_4 := Nde.out
             refine skip_ (w1 := ?_) (by rfl) rfl ?_ ?_
             rotate_left
             ·
              go_simp
              rfl
             refine hK.out _ _ ⟨((cf_ Nad.out _).trans (((cf_ Nad.out _).trans (((cf_ Nad.out _).trans (hH.1)))))), ((cf_ Nad.out _).trans (((cf_ Nad.out _).trans (((cf_ Nad.out _).trans (hH.2.1)))))), ((cf_ Ned.out _).trans (((cf_ Ned.out _).trans (((cf_ Ned.out _).trans (hH.2.2.1)))))), ((cf_ Ned.out _).trans (((cf_ Ned.out _).trans (((cf_ Ned.out _).trans (hH.2.2.2.1)))))), ((cf_ Ned.out _).trans (((cf_ Ned.out _).trans (((cf_ Ned.out _).trans (hH.2.2.2.2))))))⟩ (fun hH => ?_)
             clear hK K
             refine pure_ (i := 5) (N := some 8) (v := ?_) (a' := ?_) #[true, true, true, true, true, true] rfl rfl (by kernel_rfl) (fun _ _ _ h => h) (Or.inl ⟨by rfl, ?_⟩) ?_ ?_
             rotate_left
             ·
              intro w'
              go_simp
              with_reducible rfl
             rotate_left
             ·
              simp only [Act.put, List.setIfInBounds_toArray, List.set_cons_zero, List.set_cons_succ, i64_w, i32_w]
              rfl
             refine done_ (by kernel_rfl) ?_
             try go_wp2
             refine bodyPost_ret (results_list (rs := [.cell 6 64, .cell 7 46, .tmp 8]) rfl (by simp) (.cell gc 64 #[.int .i64 a1_0, .int .i64 a1_1] (0, 0) _ rfl (by (with_reducible repeat first | refine bN_ ?_ _ | refine bD_ ?_ | refine bA_ ?_ _); refine blk_far ?_ Ncd.out _; (with_reducible repeat first | refine bN_ ?_ _ | refine bD_ ?_ | refine bA_ ?_ _); refine blk_far ?_ Ncd.out _; (with_reducible repeat first | refine bN_ ?_ _ | refine bD_ ?_ | refine bA_ ?_ _); refine blk_far ?_ Ncd.out _; (with_reducible repeat first | refine bN_ ?_ _ | refine bD_ ?_ | refine bA_ ?_ _); refine blk_put (cs := #[.int .i64 a1_0, .int .i64 0]) ?_ 1 _ rfl; (with_reducible repeat first | refine bN_ ?_ _ | refine bD_ ?_ | refine bA_ ?_ _); refine blk_put (cs := #[.int .i64 0, .int .i64 0]) ?_ 0 _ rfl; (with_reducible repeat first | refine bN_ ?_ _ | refine bD_ ?_ | refine bA_ ?_ _); exact Bc_.out) Tryd.underlying64 rfl (by kernel_rfl) (.cell gd 46 #[.int .i64 1, .int .i64 0, .string (⟨#[]⟩ : ByteArray)] (0, 0) _ rfl (by (with_reducible repeat first | refine bN_ ?_ _ | refine bD_ ?_ | refine bA_ ?_ _); refine blk_put (cs := #[.int .i64 1, .int .i64 0, .string (⟨#[]⟩ : ByteArray)]) ?_ 2 _ rfl; (with_reducible repeat first | refine bN_ ?_ _ | refine bD_ ?_ | refine bA_ ?_ _); refine blk_put (cs := #[.int .i64 1, .int .i64 0, .string (⟨#[]⟩ : ByteArray)]) ?_ 1 _ rfl; (with_reducible repeat first | refine bN_ ?_ _ | refine bD_ ?_ | refine bA_ ?_ _); refine blk_put (cs := #[.int .i64 0, .int .i64 0, .string (⟨#[]⟩ : ByteArray)]) ?_ 0 _ rfl; (with_reducible repeat first | refine bN_ ?_ _ | refine bD_ ?_ | refine bA_ ?_ _); refine blk_far ?_ Ndc.out _; (with_reducible repeat first | refine bN_ ?_ _ | refine bD_ ?_ | refine bA_ ?_ _); refine blk_far ?_ Ndc.out _; (with_reducible repeat first | refine bN_ ?_ _ | refine bD_ ?_ | refine bA_ ?_ _); exact Bd_.out) Tryd.underlying46 rfl (by kernel_rfl) (.tmp .nil)))) rfl ?_
             exact ⟨by first | rfl | (simp [errW_none, errW_some] <;> rfl), by repeat (first | (with_reducible first | exact HB.out | apply below_alloc | apply pw_below_drewN | apply below_drew1 | refine below_set ?_ GE112.out | refine below_set ?_ GE113.out | refine below_set ?_ GE114.out | refine below_set ?_ GE115.out | refine below_set ?_ GE116.out) | exact HB.out)⟩
            ·
             rw [if_neg c191] at H
             have c191b0 : ((wrap64 (a1_1 + a2_1)) == (l0.length : Int)) = false := beq_eq_false_iff_ne.mpr c191
             have c191b1 : ((wrap64 (a1_1 + a2_1)) != (l0.length : Int)) = true := bne_iff_ne.mpr c191
             simp only [Option.some.injEq, Prod.mk.injEq] at H
             obtain ⟨rfl, rfl, rfl, rfl, rfl, rfl⟩ := H
             have hnb208 := Nba.out
             have hnc208 := Nab.out
             have hnb209 := Nbc.out
             have hnc209 := Ncb.out
             have hnb210 := Nbd.out
             have hnc210 := Ndb.out
             have hnb211 := Nbe.out
             have hnc211 := Neb.out
             have hcz212_0 : wc.cell? ⟨gb, 0, none⟩ = some (.int .i64 a2_0) := (blk_cell Bb_.out 0).trans rfl
             have hcz212_1 : wc.cell? ⟨gb, 1, none⟩ = some (.int .i64 a2_1) := (blk_cell Bb_.out 1).trans rfl
             have hfz212_0 := blk_frozen Bb_.out 0
             have hfz212_1 := blk_frozen Bb_.out 1
             try go_wp2
             have m0 := Aside0.mk (blk_drew Ba_.out)
             have m1 := Aside0.mk (blk_drew Bb_.out)
             have m2 := Aside0.mk (blk_drew Bc_.out)
             have m3 := Aside0.mk (blk_drew Bd_.out)
             have m4 := Aside0.mk (blk_drew Be_.out)
             have m5 := Aside0.mk (below_drew1 HB.out)
             clear Ba_
             clear Bb_
             clear Bc_
             clear Bd_
             clear Be_
             clear HB
             have Ba_ := m0
             have Bb_ := m1
             have Bc_ := m2
             have Bd_ := m3
             have Be_ := m4
             have HB := m5
             clear m0 m1 m2 m3 m4 m5
             refine start_ (n := 6) (S := fun w' => w'.cell? ⟨ga, 0, none⟩ = some (.int .i64 a1_0) ∧ w'.cell? ⟨ga, 1, none⟩ = some (.int .i64 a1_1) ∧ w'.cell? ⟨ge, 0, none⟩ = some (.int .i64 0) ∧ w'.cell? ⟨ge, 1, none⟩ = some (.int .i64 0) ∧ w'.cell? ⟨ge, 2, none⟩ = some (.string (⟨#[]⟩ : ByteArray))) (ds := []) #[false, false, false, false, false, false] (by kernel_rfl) rfl rfl ⟨(blk_cell Ba_.out 0).trans rfl, (blk_cell Ba_.out 1).trans rfl, (blk_cell Be_.out 0).trans rfl, (blk_cell Be_.out 1).trans rfl, (blk_cell Be_.out 2).trans rfl⟩ (fun hH => ?_)
             generalize wc.drew = w213 at Ba_ Bb_ Bc_ Bd_ Be_ HB hH ⊢
             refine pure_ (i := 2) (N := some 126) (v := ?_) (a' := ?_) #[false, false, true, false, false, false] rfl rfl (by kernel_rfl) (fun _ _ _ h => h) (Or.inl ⟨by rfl, ?_⟩) ?_ ?_
             rotate_left
             ·
              intro w'
              go_simp
              with_reducible rfl
             rotate_left
             ·
              simp only [Act.put, List.setIfInBounds_toArray, List.set_cons_zero, List.set_cons_succ, i64_w, i32_w]
              rfl
             refine take_ (i := 0) (N := some 124) (v := ?_) (a' := ?_) #[true, false, true, false, false, false] rfl rfl (by kernel_rfl) (fun _ _ _ h => h) (Or.inl ⟨by rfl, ?_⟩) hH ?_ ?_
             rotate_left
             ·
              rintro w' ⟨s0, s1, s2, s3, s4⟩
              go_simp
              with_reducible rfl
             rotate_left
             ·
              simp only [Act.put, List.setIfInBounds_toArray, List.set_cons_zero, List.set_cons_succ, i64_w, i32_w]
              rfl
             refine take_ (i := 1) (N := some 125) (v := ?_) (a' := ?_) #[true, true, true, false, false, false] rfl rfl (by kernel_rfl) (fun _ _ _ h => h) (Or.inl ⟨by rfl, ?_⟩) hH ?_ ?_
             rotate_left
             ·
              rintro w' ⟨s0, s1, s2, s3, s4⟩
              go_simp
              with_reducible rfl
             rotate_left
             ·
              simp only [Act.put, List.setIfInBounds_toArray, List.set_cons_zero, List.set_cons_succ, i64_w, i32_w]
              rfl
             refine one_ (i := 3) (N := none) #[true, true, true, true, false, false] rfl rfl (by kernel_rfl) (by decide) (fun K hK => ?_)
             have hs214 : w213.cell? ⟨gc, 0, none⟩ = some (.int .i64 0) := (blk_cell Bc_.out 0).trans rfl
             have hfs214 := blk_frozen Bc_.out 0
             have hns214_0 := Nac.out
             have hns214_1 := Nbc.out
             have hns214_3 := Ndc.out
             have hns214_4 := Nec.out
             have hms214_0 := Nca.out
             have hms214_1 := Ncb.out
             have hms214_3 := Ncd.out
             have hms214_4 := Nce.out
             have hs215 : w213.cell? ⟨gc, 1, none⟩ = some (.int .i64 0) := (blk_cell Bc_.out 1).trans rfl
             have hfs215 := blk_frozen Bc_.out 1
             have hns215_0 := Nac.out
             have hns215_1 := Nbc.out
             have hns215_3 := Ndc.out
             have hns215_4 := Nec.out
             have hms215_0 := Nca.out
             have hms215_1 := Ncb.out
             have hms215_3 := Ncd.out
             have hms215_4 := Nce.out
             refine skip_ (w1 := ?_) (by rfl) rfl ?_ ?_
             rotate_left
             ·
              go_simp
              rfl
             refine hK.out _ _ ⟨((cf_ Nac.out _).trans (((cf_ Nac.out _).trans (hH.1)))), ((cf_ Nac.out _).trans (((cf_ Nac.out _).trans (hH.2.1)))), ((cf_ Nec.out _).trans (((cf_ Nec.out _).trans (hH.2.2.1)))), ((cf_ Nec.out _).trans (((cf_ Nec.out _).trans (hH.2.2.2.1)))), ((cf_ Nec.out _).trans (((cf_ Nec.out _).trans (hH.2.2.2.2))))⟩ (fun hH => ?_)
             clear hK K
             refine one_ (i := 4) (N := none) #[true, true, true, true, true, false] rfl rfl (by kernel_rfl) (by decide) (fun K hK => ?_)
             have hs216 : w213.cell? ⟨gd, 0, none⟩ = some (.int .i64 0) := (blk_cell Bd_.out 0).trans rfl
             have hfs216 := blk_frozen Bd_.out 0
             have hns216_0 := Nad.out
             have hns216_1 := Nbd.out
             have hns216_2 := Ncd.out
             have hns216_4 := Ned.out
             have hms216_0 := Nda.out
             have hms216_1 := Ndb.out
             have hms216_2 := Ndc.out
             have hms216_4 := Nde.out
             have hs217 : w213.cell? ⟨gd, 1, none⟩ = some (.int .i64 0) := (blk_cell Bd_.out 1).trans rfl
             have hfs217 := blk_frozen Bd_.out 1
             have hns217_0 := Nad.out
             have hns217_1 := Nbd.out
             have hns217_2 := Ncd.out
             have hns217_4 := Ned.out
             have hms217_0 := Nda.out
             have hms217_1 := Ndb.out
             have hms217_2 := Ndc.out
             have hms217_4 := Nde.out
             have hs218 : w213.cell? ⟨gd, 2, none⟩ = some (.string (⟨#[]⟩ : ByteArray)) := (blk_cell Bd_.out 2).trans rfl
             have hfs218 := blk_frozen Bd_.out 2
             have hns218_0 := Nad.out
             have hns218_1 := Nbd.out
             have hns218_2 := Ncd.out
             have hns218_4 := Ned.out
             have hms218_0 := Nda.out
             have hms218_1 := Ndb.out
             have hms218_2 := Ndc.out
             have hms218_4 := Nde.out
             refine skip_ (w1 := ?_) (by rfl) rfl ?_ ?_
             rotate_left
             ·
              go_simp
              rfl
             refine hK.out _ _ ⟨((cf_ Nad.out _).trans (((cf_ Nad.out _).trans (((cf_ Nad.out _).trans (hH.1)))))), ((cf_ Nad.out _).trans (((cf_ Nad.out _).trans (((cf_ Nad.out _).trans (hH.2.1)))))), ((cf_ Ned.out _).trans (((cf_ Ned.out _).trans (((cf_ Ned.out _).trans (hH.2.2.1)))))), ((cf_ Ned.out _).trans (((cf_ Ned.out _).trans (((cf_ Ned.out _).trans (hH.2.2.2.1)))))), ((cf_ Ned.out _).trans (((cf_ Ned.out _).trans (((cf_ Ned.out _).trans (hH.2.2.2.2))))))⟩ (fun hH => ?_)
             clear hK K
             refine pure_ (i := 5) (N := some 8) (v := ?_) (a' := ?_) #[true, true, true, true, true, true] rfl rfl (by kernel_rfl) (fun _ _ _ h => h) (Or.inl ⟨by rfl, ?_⟩) ?_ ?_
             rotate_left
             ·
              intro w'
              go_simp
              with_reducible rfl
             rotate_left
             ·
              simp only [Act.put, List.setIfInBounds_toArray, List.set_cons_zero, List.set_cons_succ, i64_w, i32_w]
              rfl
             refine done_ (by kernel_rfl) ?_
             try go_wp2
             refine bodyPost_ret (results_list (rs := [.cell 6 64, .cell 7 46, .tmp 8]) rfl (by simp) (.cell gc 64 #[.int .i64 a1_0, .int .i64 a1_1] (0, 0) _ rfl (by (with_reducible repeat first | refine bN_ ?_ _ | refine bD_ ?_ | refine bA_ ?_ _); refine blk_far ?_ Ncd.out _; (with_reducible repeat first | refine bN_ ?_ _ | refine bD_ ?_ | refine bA_ ?_ _); refine blk_far ?_ Ncd.out _; (with_reducible repeat first | refine bN_ ?_ _ | refine bD_ ?_ | refine bA_ ?_ _); refine blk_far ?_ Ncd.out _; (with_reducible repeat first | refine bN_ ?_ _ | refine bD_ ?_ | refine bA_ ?_ _); refine blk_put (cs := #[.int .i64 a1_0, .int .i64 0]) ?_ 1 _ rfl; (with_reducible repeat first | refine bN_ ?_ _ | refine bD_ ?_ | refine bA_ ?_ _); refine blk_put (cs := #[.int .i64 0, .int .i64 0]) ?_ 0 _ rfl; (with_reducible repeat first | refine bN_ ?_ _ | refine bD_ ?_ | refine bA_ ?_ _); exact Bc_.out) Tryd.underlying64 rfl (by kernel_rfl) (.cell gd 46 #[.int .i64 0, .int .i64 0, .string (⟨#[]⟩ : ByteArray)] (0, 0) _ rfl (by (with_reducible repeat first | refine bN_ ?_ _ | refine bD_ ?_ | refine bA_ ?_ _); refine blk_put (cs := #[.int .i64 0, .int .i64 0, .string (⟨#[]⟩ : ByteArray)]) ?_ 2 _ rfl; (with_reducible repeat first | refine bN_ ?_ _ | refine bD_ ?_ | refine bA_ ?_ _); refine blk_put (cs := #[.int .i64 0, .int .i64 0, .string (⟨#[]⟩ : ByteArray)]) ?_ 1 _ rfl; (with_reducible repeat first | refine bN_ ?_ _ | refine bD_ ?_ | refine bA_ ?_ _); refine blk_put (cs := #[.int .i64 0, .int .i64 0, .string (⟨#[]⟩ : ByteArray)]) ?_ 0 _ rfl; (with_reducible repeat first | refine bN_ ?_ _ | refine bD_ ?_ | refine bA_ ?_ _); refine blk_far ?_ Ndc.out _; (with_reducible repeat first | refine bN_ ?_ _ | refine bD_ ?_ | refine bA_ ?_ _); refine blk_far ?_ Ndc.out _; (with_reducible repeat first | refine bN_ ?_ _ | refine bD_ ?_ | refine bA_ ?_ _); exact Bd_.out) Tryd.underlying46 rfl (by kernel_rfl) (.tmp .nil)))) rfl ?_
             exact ⟨by first | rfl | (simp [errW_none, errW_some] <;> rfl), by repeat (first | (with_reducible first | exact HB.out | apply below_alloc | apply pw_below_drewN | apply below_drew1 | refine below_set ?_ GE112.out | refine below_set ?_ GE113.out | refine below_set ?_ GE114.out | refine below_set ?_ GE115.out | refine below_set ?_ GE116.out) | exact HB.out)⟩
           ·
            replace c190 := Bool.eq_false_iff.mpr c190
            subst c190
            have H1 : (some (a1_0, a1_1, 0, 0, (⟨#[]⟩ : ByteArray), false)) = some (r1, r2, r3, r4, r5, r6) := by rw [if_neg (show ¬ (false = true) by decide)] at H; exact H
            clear H
            have H := H1
            clear H1
            simp only [Option.some.injEq, Prod.mk.injEq] at H
            obtain ⟨rfl, rfl, rfl, rfl, rfl, rfl⟩ := H
            have hnb219 := Nba.out
            have hnc219 := Nab.out
            have hnb220 := Nbc.out
            have hnc220 := Ncb.out
            have hnb221 := Nbd.out
            have hnc221 := Ndb.out
            have hnb222 := Nbe.out
            have hnc222 := Neb.out
            have hcz223_0 : wc.cell? ⟨gb, 0, none⟩ = some (.int .i64 a2_0) := (blk_cell Bb_.out 0).trans rfl
            have hcz223_1 : wc.cell? ⟨gb, 1, none⟩ = some (.int .i64 a2_1) := (blk_cell Bb_.out 1).trans rfl
            have hfz223_0 := blk_frozen Bb_.out 0
            have hfz223_1 := blk_frozen Bb_.out 1
            try go_wp2
            have m0 := Aside0.mk (blk_drew Ba_.out)
            have m1 := Aside0.mk (blk_drew Bb_.out)
            have m2 := Aside0.mk (blk_drew Bc_.out)
            have m3 := Aside0.mk (blk_drew Bd_.out)
            have m4 := Aside0.mk (blk_drew Be_.out)
            have m5 := Aside0.mk (below_drew1 HB.out)
            clear Ba_
            clear Bb_
            clear Bc_
            clear Bd_
            clear Be_
            clear HB
            have Ba_ := m0
            have Bb_ := m1
            have Bc_ := m2
            have Bd_ := m3
            have Be_ := m4
            have HB := m5
            clear m0 m1 m2 m3 m4 m5
            refine start_ (n := 6) (S := fun w' => w'.cell? ⟨ga, 0, none⟩ = some (.int .i64 a1_0) ∧ w'.cell? ⟨ga, 1, none⟩ = some (.int .i64 a1_1) ∧ w'.cell? ⟨ge, 0, none⟩ = some (.int .i64 0) ∧ w'.cell? ⟨ge, 1, none⟩ = some (.int .i64 0) ∧ w'.cell? ⟨ge, 2, none⟩ = some (.string (⟨#[]⟩ : ByteArray))) (ds := []) #[false, false, false, false, false, false] (by kernel_rfl) rfl rfl ⟨(blk_cell Ba_.out 0).trans rfl, (blk_cell Ba_.out 1).trans rfl, (blk_cell Be_.out 0).trans rfl, (blk_cell Be_.out 1).trans rfl, (blk_cell Be_.out 2).trans rfl⟩ (fun hH => ?_)
            generalize wc.drew = w224 at Ba_ Bb_ Bc_ Bd_ Be_ HB hH ⊢
            refine pure_ (i := 2) (N := some 126) (v := ?_) (a' := ?_) #[false, false, true, false, false, false] rfl rfl (by kernel_rfl) (fun _ _ _ h => h) (Or.inl ⟨by rfl, ?_⟩) ?_ ?_
            rotate_left
            ·
             intro w'
             go_simp
             with_reducible rfl
            rotate_left
            ·
             simp only [Act.put, List.setIfInBounds_toArray, List.set_cons_zero, List.set_cons_succ, i64_w, i32_w]
             rfl
            refine take_ (i := 0) (N := some 124) (v := ?_) (a' := ?_) #[true, false, true, false, false, false] rfl rfl (by kernel_rfl) (fun _ _ _ h => h) (Or.inl ⟨by rfl, ?_⟩) hH ?_ ?_
            rotate_left
            ·
             rintro w' ⟨s0, s1, s2, s3, s4⟩
             go_simp
             with_reducible rfl
            rotate_left
            ·
             simp only [Act.put, List.setIfInBounds_toArray, List.set_cons_zero, List.set_cons_succ, i64_w, i32_w]
             rfl
            refine take_ (i := 1) (N := some 125) (v := ?_) (a' := ?_) #[true, true, true, false, false, false] rfl rfl (by kernel_rfl) (fun _ _ _ h => h) (Or.inl ⟨by rfl, ?_⟩) hH ?_ ?_
            rotate_left
            ·
             rintro w' ⟨s0, s1, s2, s3, s4⟩
             go_simp
             with_reducible rfl
            rotate_left
            ·
             simp only [Act.put, List.setIfInBounds_toArray, List.set_cons_zero, List.set_cons_succ, i64_w, i32_w]
             rfl
            refine one_ (i := 3) (N := none) #[true, true, true, true, false, false] rfl rfl (by kernel_rfl) (by decide) (fun K hK => ?_)
            have hs225 : w224.cell? ⟨gc, 0, none⟩ = some (.int .i64 0) := (blk_cell Bc_.out 0).trans rfl
            have hfs225 := blk_frozen Bc_.out 0
            have hns225_0 := Nac.out
            have hns225_1 := Nbc.out
            have hns225_3 := Ndc.out
            have hns225_4 := Nec.out
            have hms225_0 := Nca.out
            have hms225_1 := Ncb.out
            have hms225_3 := Ncd.out
            have hms225_4 := Nce.out
            have hs226 : w224.cell? ⟨gc, 1, none⟩ = some (.int .i64 0) := (blk_cell Bc_.out 1).trans rfl
            have hfs226 := blk_frozen Bc_.out 1
            have hns226_0 := Nac.out
            have hns226_1 := Nbc.out
            have hns226_3 := Ndc.out
            have hns226_4 := Nec.out
            have hms226_0 := Nca.out
            have hms226_1 := Ncb.out
            have hms226_3 := Ncd.out
            have hms226_4 := Nce.out
            refine skip_ (w1 := ?_) (by rfl) rfl ?_ ?_
            rotate_left
            ·
             go_simp
             rfl
            refine hK.out _ _ ⟨((cf_ Nac.out _).trans (((cf_ Nac.out _).trans (hH.1)))), ((cf_ Nac.out _).trans (((cf_ Nac.out _).trans (hH.2.1)))), ((cf_ Nec.out _).trans (((cf_ Nec.out _).trans (hH.2.2.1)))), ((cf_ Nec.out _).trans (((cf_ Nec.out _).trans (hH.2.2.2.1)))), ((cf_ Nec.out _).trans (((cf_ Nec.out _).trans (hH.2.2.2.2))))⟩ (fun hH => ?_)
            clear hK K
            refine one_ (i := 4) (N := none) #[true, true, true, true, true, false] rfl rfl (by kernel_rfl) (by decide) (fun K hK => ?_)
            have hs227 : w224.cell? ⟨gd, 0, none⟩ = some (.int .i64 0) := (blk_cell Bd_.out 0).trans rfl
            have hfs227 := blk_frozen Bd_.out 0
            have hns227_0 := Nad.out
            have hns227_1 := Nbd.out
            have hns227_2 := Ncd.out
            have hns227_4 := Ned.out
            have hms227_0 := Nda.out
            have hms227_1 := Ndb.out
            have hms227_2 := Ndc.out
            have hms227_4 := Nde.out
            have hs228 : w224.cell? ⟨gd, 1, none⟩ = some (.int .i64 0) := (blk_cell Bd_.out 1).trans rfl
            have hfs228 := blk_frozen Bd_.out 1
            have hns228_0 := Nad.out
            have hns228_1 := Nbd.out
            have hns228_2 := Ncd.out
            have hns228_4 := Ned.out
            have hms228_0 := Nda.out
            have hms228_1 := Ndb.out
            have hms228_2 := Ndc.out
            have hms228_4 := Nde.out
            have hs229 : w224.cell? ⟨gd, 2, none⟩ = some (.string (⟨#[]⟩ : ByteArray)) := (blk_cell Bd_.out 2).trans rfl
            have hfs229 := blk_frozen Bd_.out 2
            have hns229_0 := Nad.out
            have hns229_1 := Nbd.out
            have hns229_2 := Ncd.out
            have hns229_4 := Ned.out
            have hms229_0 := Nda.out
            have hms229_1 := Ndb.out
            have hms229_2 := Ndc.out
            have hms229_4 := Nde.out
            refine skip_ (w1 := ?_) (by rfl) rfl ?_ ?_
            rotate_left
            ·
             go_simp
             rfl
            refine hK.out _ _ ⟨((cf_ Nad.out _).trans (((cf_ Nad.out _).trans (((cf_ Nad.out _).trans (hH.1)))))), ((cf_ Nad.out _).trans (((cf_ Nad.out _).trans (((cf_ Nad.out _).trans (hH.2.1)))))), ((cf_ Ned.out _).trans (((cf_ Ned.out _).trans (((cf_ Ned.out _).trans (hH.2.2.1)))))), ((cf_ Ned.out _).trans (((cf_ Ned.out _).trans (((cf_ Ned.out _).trans (hH.2.2.2.1)))))), ((cf_ Ned.out _).trans (((cf_ Ned.out _).trans (((cf_ Ned.out _).trans (hH.2.2.2.2))))))⟩ (fun hH => ?_)
            clear hK K
            refine pure_ (i := 5) (N := some 8) (v := ?_) (a' := ?_) #[true, true, true, true, true, true] rfl rfl (by kernel_rfl) (fun _ _ _ h => h) (Or.inl ⟨by rfl, ?_⟩) ?_ ?_
            rotate_left
            ·
             intro w'
             go_simp
             with_reducible rfl
            rotate_left
            ·
             simp only [Act.put, List.setIfInBounds_toArray, List.set_cons_zero, List.set_cons_succ, i64_w, i32_w]
             rfl
            refine done_ (by kernel_rfl) ?_
            try go_wp2
            refine bodyPost_ret (results_list (rs := [.cell 6 64, .cell 7 46, .tmp 8]) rfl (by simp) (.cell gc 64 #[.int .i64 a1_0, .int .i64 a1_1] (0, 0) _ rfl (by (with_reducible repeat first | refine bN_ ?_ _ | refine bD_ ?_ | refine bA_ ?_ _); refine blk_far ?_ Ncd.out _; (with_reducible repeat first | refine bN_ ?_ _ | refine bD_ ?_ | refine bA_ ?_ _); refine blk_far ?_ Ncd.out _; (with_reducible repeat first | refine bN_ ?_ _ | refine bD_ ?_ | refine bA_ ?_ _); refine blk_far ?_ Ncd.out _; (with_reducible repeat first | refine bN_ ?_ _ | refine bD_ ?_ | refine bA_ ?_ _); refine blk_put (cs := #[.int .i64 a1_0, .int .i64 0]) ?_ 1 _ rfl; (with_reducible repeat first | refine bN_ ?_ _ | refine bD_ ?_ | refine bA_ ?_ _); refine blk_put (cs := #[.int .i64 0, .int .i64 0]) ?_ 0 _ rfl; (with_reducible repeat first | refine bN_ ?_ _ | refine bD_ ?_ | refine bA_ ?_ _); exact Bc_.out) Tryd.underlying64 rfl (by kernel_rfl) (.cell gd 46 #[.int .i64 0, .int .i64 0, .string (⟨#[]⟩ : ByteArray)] (0, 0) _ rfl (by (with_reducible repeat first | refine bN_ ?_ _ | refine bD_ ?_ | refine bA_ ?_ _); refine blk_put (cs := #[.int .i64 0, .int .i64 0, .string (⟨#[]⟩ : ByteArray)]) ?_ 2 _ rfl; (with_reducible repeat first | refine bN_ ?_ _ | refine bD_ ?_ | refine bA_ ?_ _); refine blk_put (cs := #[.int .i64 0, .int .i64 0, .string (⟨#[]⟩ : ByteArray)]) ?_ 1 _ rfl; (with_reducible repeat first | refine bN_ ?_ _ | refine bD_ ?_ | refine bA_ ?_ _); refine blk_put (cs := #[.int .i64 0, .int .i64 0, .string (⟨#[]⟩ : ByteArray)]) ?_ 0 _ rfl; (with_reducible repeat first | refine bN_ ?_ _ | refine bD_ ?_ | refine bA_ ?_ _); refine blk_far ?_ Ndc.out _; (with_reducible repeat first | refine bN_ ?_ _ | refine bD_ ?_ | refine bA_ ?_ _); refine blk_far ?_ Ndc.out _; (with_reducible repeat first | refine bN_ ?_ _ | refine bD_ ?_ | refine bA_ ?_ _); exact Bd_.out) Tryd.underlying46 rfl (by kernel_rfl) (.tmp .nil)))) rfl ?_
            exact ⟨by first | rfl | (simp [errW_none, errW_some] <;> rfl), by repeat (first | (with_reducible first | exact HB.out | apply below_alloc | apply pw_below_drewN | apply below_drew1 | refine below_set ?_ GE112.out | refine below_set ?_ GE113.out | refine below_set ?_ GE114.out | refine below_set ?_ GE115.out | refine below_set ?_ GE116.out) | exact HB.out)⟩
          ·
           rw [if_neg c189] at H
           have c189b0 : (a2_0 == 5) = false := beq_eq_false_iff_ne.mpr c189
           have c189b1 : (a2_0 != 5) = true := bne_iff_ne.mpr c189
           by_cases c230 : a2_0 = 6
           ·
            rw [if_pos c230] at H
            have c230b0 : (a2_0 == 6) = true := beq_iff_eq.mpr c230
            have c230b1 : (a2_0 != 6) = false := bne_eq_false_iff_eq.mpr c230
            clear c230
            by_cases c231 : 0 ≤ a1_0
            ·
             rw [if_pos c231] at H
             have c231b0 := eq_true c231
             have c231b1 : decide (0 ≤ a1_0) = true := decide_eq_true c231
             clear c231
             by_cases c232 : a1_0 ≤ a1_1
             ·
              rw [if_pos c232] at H
              have c232b0 := eq_true c232
              have c232b1 : decide (a1_0 ≤ a1_1) = true := decide_eq_true c232
              clear c232
              by_cases c233 : a1_1 ≤ (l0.length : Int)
              ·
               rw [if_pos c233] at H
               have c233b0 := eq_true c233
               have c233b1 : decide (a1_1 ≤ (l0.length : Int)) = true := decide_eq_true c233
               clear c233
               simp only [Option.some.injEq, Prod.mk.injEq] at H
               obtain ⟨rfl, rfl, rfl, rfl, rfl, rfl⟩ := H
               have hnb234 := Nba.out
               have hnc234 := Nab.out
               have hnb235 := Nbc.out
               have hnc235 := Ncb.out
               have hnb236 := Nbd.out
               have hnc236 := Ndb.out
               have hnb237 := Nbe.out
               have hnc237 := Neb.out
               have hcz238_0 : wc.cell? ⟨gb, 0, none⟩ = some (.int .i64 a2_0) := (blk_cell Bb_.out 0).trans rfl
               have hcz238_1 : wc.cell? ⟨gb, 1, none⟩ = some (.int .i64 a2_1) := (blk_cell Bb_.out 1).trans rfl
               have hfz238_0 := blk_frozen Bb_.out 0
               have hfz238_1 := blk_frozen Bb_.out 1
               have hnb239 := Nac.out
               have hnc239 := Nca.out
               have hnb240 := Nad.out
               have hnc240 := Nda.out
               have hnb241 := Nae.out
               have hnc241 := Nea.out
               have hcz242_0 : wc.cell? ⟨ga, 0, none⟩ = some (.int .i64 a1_0) := (blk_cell Ba_.out 0).trans rfl
               have hcz242_1 : wc.cell? ⟨ga, 1, none⟩ = some (.int .i64 a1_1) := (blk_cell Ba_.out 1).trans rfl
               have hfz242_0 := blk_frozen Ba_.out 0
               have hfz242_1 := blk_frozen Ba_.out 1
               obtain ⟨i0243, hi0243, _, hsz243, _⟩ := info_parts info5
               (try clear hcut117); obtain ⟨A243, hcut243, hA243, hC243⟩ := print_mid_of (P := Tryd.prog) (Value.int .u8) 0 22 5 .i64 .i64 Tryd.underlying22 hi0243 hsz243 A0 c0 l0 a1_0 a1_1 (of_decide_eq_true (by first | (with_reducible assumption) | assumption)) (by first | omega | exact of_decide_eq_true (by first | (with_reducible assumption) | assumption)) (of_decide_eq_true (by first | (with_reducible assumption) | assumption)) HC0.out
               have HR119 := Aside0.mk (Kd.C_of_reads (h1 := fun _ => rfl) (hA243 _ (Kd.reads_of_C HR0.out)))
               have HC119 := Aside0.mk hC243
               clear hA243 hC243 hi0243 hsz243
               have hcv244 := Kd.C_string (P := Tryd.prog) (A := A243) (c := (c0 - a1_0.toNat)) Tryd.underlying22 Tryd.underlying5 Tryd.underlying9 (Kd.C_below HR119.out HB.out)
               have hle_ : a1_1 ≤ (l0.length : Int) := of_decide_eq_true (by first | (with_reducible assumption) | assumption)
               rw [show ((l0.take (a1_1 : Int).toNat).drop (a1_0 : Int).toNat).length = a1_1.toNat - a1_0.toNat by rw [List.length_drop, List.length_take]; omega] at hcv244
               clear hle_
               have hnb245 := Nec.out
               have hnc245 := Nce.out
               have hnb246 := Ned.out
               have hnc246 := Nde.out
               have hcz247_0 : wc.cell? ⟨ge, 0, none⟩ = some (.int .i64 0) := (blk_cell Be_.out 0).trans rfl
               have hcz247_1 : wc.cell? ⟨ge, 1, none⟩ = some (.int .i64 0) := (blk_cell Be_.out 1).trans rfl
               have hcz247_2 : wc.cell? ⟨ge, 2, none⟩ = some (.string (⟨#[]⟩ : ByteArray)) := (blk_cell Be_.out 2).trans rfl
               have hfz247_0 := blk_frozen Be_.out 0
               have hfz247_1 := blk_frozen Be_.out 1
               have hfz247_2 := blk_frozen Be_.out 2
               try go_wp2
               have m0 : Aside0 ((wc.setCell ⟨ge, 2, none⟩ (.string (strOfNums ((l0.take (a1_1 : Int).toNat).drop (a1_0 : Int).toNat)))).heap[ga]? = some (.cells #[.int .i64 a1_0, .int .i64 a1_1] 64 (0, 0))) := ⟨by (with_reducible repeat first | refine bN_ ?_ _ | refine bD_ ?_ | refine bA_ ?_ _); refine blk_far ?_ Nae.out _; (with_reducible repeat first | refine bN_ ?_ _ | refine bD_ ?_ | refine bA_ ?_ _); exact Ba_.out⟩
               have m1 : Aside0 ((wc.setCell ⟨ge, 2, none⟩ (.string (strOfNums ((l0.take (a1_1 : Int).toNat).drop (a1_0 : Int).toNat)))).heap[gb]? = some (.cells #[.int .i64 a2_0, .int .i64 a2_1] 44 (0, 0))) := ⟨by (with_reducible repeat first | refine bN_ ?_ _ | refine bD_ ?_ | refine bA_ ?_ _); refine blk_far ?_ Nbe.out _; (with_reducible repeat first | refine bN_ ?_ _ | refine bD_ ?_ | refine bA_ ?_ _); exact Bb_.out⟩
               have m2 : Aside0 ((wc.setCell ⟨ge, 2, none⟩ (.string (strOfNums ((l0.take (a1_1 : Int).toNat).drop (a1_0 : Int).toNat)))).heap[gc]? = some (.cells #[.int .i64 0, .int .i64 0] 64 (0, 0))) := ⟨by (with_reducible repeat first | refine bN_ ?_ _ | refine bD_ ?_ | refine bA_ ?_ _); refine blk_far ?_ Nce.out _; (with_reducible repeat first | refine bN_ ?_ _ | refine bD_ ?_ | refine bA_ ?_ _); exact Bc_.out⟩
               have m3 : Aside0 ((wc.setCell ⟨ge, 2, none⟩ (.string (strOfNums ((l0.take (a1_1 : Int).toNat).drop (a1_0 : Int).toNat)))).heap[gd]? = some (.cells #[.int .i64 0, .int .i64 0, .string (⟨#[]⟩ : ByteArray)] 46 (0, 0))) := ⟨by (with_reducible repeat first | refine bN_ ?_ _ | refine bD_ ?_ | refine bA_ ?_ _); refine blk_far ?_ Nde.out _; (with_reducible repeat first | refine bN_ ?_ _ | refine bD_ ?_ | refine bA_ ?_ _); exact Bd_.out⟩
               have m4 : Aside0 ((wc.setCell ⟨ge, 2, none⟩ (.string (strOfNums ((l0.take (a1_1 : Int).toNat).drop (a1_0 : Int).toNat)))).heap[ge]? = some (.cells #[.int .i64 0, .int .i64 0, .string (strOfNums ((l0.take (a1_1 : Int).toNat).drop (a1_0 : Int).toNat))] 46 (0, 0))) := ⟨by (with_reducible repeat first | refine bN_ ?_ _ | refine bD_ ?_ | refine bA_ ?_ _); refine blk_put (cs := #[.int .i64 0, .int .i64 0, .string (⟨#[]⟩ : ByteArray)]) ?_ 2 _ rfl; (with_reducible repeat first | refine bN_ ?_ _ | refine bD_ ?_ | refine bA_ ?_ _); exact Be_.out⟩
               have m5 : Aside0 (Below w.heap.size w (wc.setCell ⟨ge, 2, none⟩ (.string (strOfNums ((l0.take (a1_1 : Int).toNat).drop (a1_0 : Int).toNat))))) := ⟨by repeat (first | (with_reducible first | exact HB.out | apply below_alloc | apply pw_below_drewN | apply below_drew1 | refine below_set ?_ GE112.out | refine below_set ?_ GE113.out | refine below_set ?_ GE114.out | refine below_set ?_ GE115.out | refine below_set ?_ GE116.out) | exact HB.out)⟩
               (try clear Ba_)
               (try clear Bb_)
               (try clear Bc_)
               (try clear Bd_)
               (try clear Be_)
               (try clear HB)
               generalize (wc.setCell ⟨ge, 2, none⟩ (.string (strOfNums ((l0.take (a1_1 : Int).toNat).drop (a1_0 : Int).toNat)))) = w248 at m0 m1 m2 m3 m4 m5 ⊢
               have Ba_ := m0
               have Bb_ := m1
               have Bc_ := m2
               have Bd_ := m3
               have Be_ := m4
               have HB := m5
               clear m0 m1 m2 m3 m4 m5
               have m0 := Aside0.mk (blk_drew Ba_.out)
               have m1 := Aside0.mk (blk_drew Bb_.out)
               have m2 := Aside0.mk (blk_drew Bc_.out)
               have m3 := Aside0.mk (blk_drew Bd_.out)
               have m4 := Aside0.mk (blk_drew Be_.out)
               have m5 := Aside0.mk (below_drew1 HB.out)
               clear Ba_
               clear Bb_
               clear Bc_
               clear Bd_
               clear Be_
               clear HB
               have Ba_ := m0
               have Bb_ := m1
               have Bc_ := m2
               have Bd_ := m3
               have Be_ := m4
               have HB := m5
               clear m0 m1 m2 m3 m4 m5
               refine start_ (n := 5) (S := fun w' => w'.cell? ⟨ga, 0, none⟩ = some (.int .i64 a1_0) ∧ w'.cell? ⟨ga, 1, none⟩ = some (.int .i64 a1_1) ∧ w'.cell? ⟨ge, 0, none⟩ = some (.int .i64 0) ∧ w'.cell? ⟨ge, 1, none⟩ = some (.int .i64 0) ∧ w'.cell? ⟨ge, 2, none⟩ = some (.string (strOfNums ((l0.take (a1_1 : Int).toNat).drop (a1_0 : Int).toNat)))) (ds := []) #[false, false, false, false, false] (by kernel_rfl) rfl rfl ⟨(blk_cell Ba_.out 0).trans rfl, (blk_cell Ba_.out 1).trans rfl, (blk_cell Be_.out 0).trans rfl, (blk_cell Be_.out 1).trans rfl, (blk_cell Be_.out 2).trans rfl⟩ (fun hH => ?_)
               generalize w248.drew = w249 at Ba_ Bb_ Bc_ Bd_ Be_ HB hH ⊢
               refine take_ (i := 0) (N := some 191) (v := ?_) (a' := ?_) #[true, false, false, false, false] rfl rfl (by kernel_rfl) (fun _ _ _ h => h) (Or.inl ⟨by rfl, ?_⟩) hH ?_ ?_
               rotate_left
               ·
                rintro w' ⟨s0, s1, s2, s3, s4⟩
                go_simp
                with_reducible rfl
               rotate_left
               ·
                simp only [Act.put, List.setIfInBounds_toArray, List.set_cons_zero, List.set_cons_succ, i64_w, i32_w]
                rfl
               refine take_ (i := 1) (N := some 192) (v := ?_) (a' := ?_) #[true, true, false, false, false] rfl rfl (by kernel_rfl) (fun _ _ _ h => h) (Or.inl ⟨by rfl, ?_⟩) hH ?_ ?_
               rotate_left
               ·
                rintro w' ⟨s0, s1, s2, s3, s4⟩
                go_simp
                with_reducible rfl
               rotate_left
               ·
                simp only [Act.put, List.setIfInBounds_toArray, List.set_cons_zero, List.set_cons_succ, i64_w, i32_w]
                rfl
               refine one_ (i := 2) (N := none) #[true, true, true, false, false] rfl rfl (by kernel_rfl) (by decide) (fun K hK => ?_)
               have hs250 : w249.cell? ⟨gc, 0, none⟩ = some (.int .i64 0) := (blk_cell Bc_.out 0).trans rfl
               have hfs250 := blk_frozen Bc_.out 0
               have hns250_0 := Nac.out
               have hns250_1 := Nbc.out
               have hns250_3 := Ndc.out
               have hns250_4 := Nec.out
               have hms250_0 := Nca.out
               have hms250_1 := Ncb.out
               have hms250_3 := Ncd.out
               have hms250_4 := Nce.out
               have hs251 : w249.cell? ⟨gc, 1, none⟩ = some (.int .i64 0) := (blk_cell Bc_.out 1).trans rfl
               have hfs251 := blk_frozen Bc_.out 1
               have hns251_0 := Nac.out
               have hns251_1 := Nbc.out
               have hns251_3 := Ndc.out
               have hns251_4 := Nec.out
               have hms251_0 := Nca.out
               have hms251_1 := Ncb.out
               have hms251_3 := Ncd.out
               have hms251_4 := Nce.out
               refine skip_ (w1 := ?_) (by rfl) rfl ?_ ?_
               rotate_left
               ·
                go_simp
                rfl
               refine hK.out _ _ ⟨((cf_ Nac.out _).trans (((cf_ Nac.out _).trans (hH.1)))), ((cf_ Nac.out _).trans (((cf_ Nac.out _).trans (hH.2.1)))), ((cf_ Nec.out _).trans (((cf_ Nec.out _).trans (hH.2.2.1)))), ((cf_ Nec.out _).trans (((cf_ Nec.out _).trans (hH.2.2.2.1)))), ((cf_ Nec.out _).trans (((cf_ Nec.out _).trans (hH.2.2.2.2))))⟩ (fun hH => ?_)
               clear hK K
               refine one_ (i := 3) (N := none) #[true, true, true, true, false] rfl rfl (by kernel_rfl) (by decide) (fun K hK => ?_)
               have hs252 : w249.cell? ⟨gd, 0, none⟩ = some (.int .i64 0) := (blk_cell Bd_.out 0).trans rfl
               have hfs252 := blk_frozen Bd_.out 0
               have hns252_0 := Nad.out
               have hns252_1 := Nbd.out
               have hns252_2 := Ncd.out
               have hns252_4 := Ned.out
               have hms252_0 := Nda.out
               have hms252_1 := Ndb.out
               have hms252_2 := Ndc.out
               have hms252_4 := Nde.out
               have hs253 : w249.cell? ⟨gd, 1, none⟩ = some (.int .i64 0) := (blk_cell Bd_.out 1).trans rfl
               have hfs253 := blk_frozen Bd_.out 1
               have hns253_0 := Nad.out
               have hns253_1 := Nbd.out
               have hns253_2 := Ncd.out
               have hns253_4 := Ned.out
               have hms253_0 := Nda.out
               have hms253_1 := Ndb.out
               have hms253_2 := Ndc.out
               have hms253_4 := Nde.out
               have hs254 : w249.cell? ⟨gd, 2, none⟩ = some (.string (⟨#[]⟩ : ByteArray)) := (blk_cell Bd_.out 2).trans rfl
               have hfs254 := blk_frozen Bd_.out 2
               have hns254_0 := Nad.out
               have hns254_1 := Nbd.out
               have hns254_2 := Ncd.out
               have hns254_4 := Ned.out
               have hms254_0 := Nda.out
               have hms254_1 := Ndb.out
               have hms254_2 := Ndc.out
               have hms254_4 := Nde.out
               refine skip_ (w1 := ?_) (by rfl) rfl ?_ ?_
               rotate_left
               ·
                go_simp
                rfl
               refine hK.out _ _ ⟨((cf_ Nad.out _).trans (((cf_ Nad.out _).trans (((cf_ Nad.out _).trans (hH.1)))))), ((cf_ Nad.out _).trans (((cf_ Nad.out _).trans (((cf_ Nad.out _).trans (hH.2.1)))))), ((cf_ Ned.out _).trans (((cf_ Ned.out _).trans (((cf_ Ned.out _).trans (hH.2.2.1)))))), ((cf_ Ned.out _).trans (((cf_ Ned.out _).trans (((cf_ Ned.out _).trans (hH.2.2.2.1)))))), ((cf_ Ned.out _).trans (((cf_ Ned.out _).trans (((cf_ Ned.out _).trans (hH.2.2.2.2))))))⟩ (fun hH => ?_)
               clear hK K
               refine pure_ (i := 4) (N := some 8) (v := ?_) (a' := ?_) #[true, true, true, true, true] rfl rfl (by kernel_rfl) (fun _ _ _ h => h) (Or.inl ⟨by rfl, ?_⟩) ?_ ?_
               rotate_left
               ·
                intro w'
                go_simp
                with_reducible rfl
               rotate_left
               ·
                simp only [Act.put, List.setIfInBounds_toArray, List.set_cons_zero, List.set_cons_succ, i64_w, i32_w]
                rfl
               refine done_ (by kernel_rfl) ?_
               try go_wp2
               refine bodyPost_ret (results_list (rs := [.cell 6 64, .cell 7 46, .tmp 8]) rfl (by simp) (.cell gc 64 #[.int .i64 a1_0, .int .i64 a1_1] (0, 0) _ rfl (by (with_reducible repeat first | refine bN_ ?_ _ | refine bD_ ?_ | refine bA_ ?_ _); refine blk_far ?_ Ncd.out _; (with_reducible repeat first | refine bN_ ?_ _ | refine bD_ ?_ | refine bA_ ?_ _); refine blk_far ?_ Ncd.out _; (with_reducible repeat first | refine bN_ ?_ _ | refine bD_ ?_ | refine bA_ ?_ _); refine blk_far ?_ Ncd.out _; (with_reducible repeat first | refine bN_ ?_ _ | refine bD_ ?_ | refine bA_ ?_ _); refine blk_put (cs := #[.int .i64 a1_0, .int .i64 0]) ?_ 1 _ rfl; (with_reducible repeat first | refine bN_ ?_ _ | refine bD_ ?_ | refine bA_ ?_ _); refine blk_put (cs := #[.int .i64 0, .int .i64 0]) ?_ 0 _ rfl; (with_reducible repeat first | refine bN_ ?_ _ | refine bD_ ?_ | refine bA_ ?_ _); exact Bc_.out) Tryd.underlying64 rfl (by kernel_rfl) (.cell gd 46 #[.int .i64 0, .int .i64 0, .string (strOfNums ((l0.take (a1_1 : Int).toNat).drop (a1_0 : Int).toNat))] (0, 0) _ rfl (by (with_reducible repeat first | refine bN_ ?_ _ | refine bD_ ?_ | refine bA_ ?_ _); refine blk_put (cs := #[.int .i64 0, .int .i64 0, .string (⟨#[]⟩ : ByteArray)]) ?_ 2 _ rfl; (with_reducible repeat first | refine bN_ ?_ _ | refine bD_ ?_ | refine bA_ ?_ _); refine blk_put (cs := #[.int .i64 0, .int .i64 0, .string (⟨#[]⟩ : ByteArray)]) ?_ 1 _ rfl; (with_reducible repeat first | refine bN_ ?_ _ | refine bD_ ?_ | refine bA_ ?_ _); refine blk_put (cs := #[.int .i64 0, .int .i64 0, .string (⟨#[]⟩ : ByteArray)]) ?_ 0 _ rfl; (with_reducible repeat first | refine bN_ ?_ _ | refine bD_ ?_ | refine bA_ ?_ _); refine blk_far ?_ Ndc.out _; (with_reducible repeat first | refine bN_ ?_ _ | refine bD_ ?_ | refine bA_ ?_ _); refine blk_far ?_ Ndc.out _; (with_reducible repeat first | refine bN_ ?_ _ | refine bD_ ?_ | refine bA_ ?_ _); exact Bd_.out) Tryd.underlying46 rfl (by kernel_rfl) (.tmp .nil)))) rfl ?_
               exact ⟨by first | rfl | (simp [errW_none, errW_some] <;> rfl), by repeat (first | (with_reducible first | exact HB.out | apply below_alloc | apply pw_below_drewN | apply below_drew1 | refine below_set ?_ GE112.out | refine below_set ?_ GE113.out | refine below_set ?_ GE114.out | refine below_set ?_ GE115.out | refine below_set ?_ GE116.out) | exact HB.out)⟩
              ·
               rw [if_neg c233] at H
               exact absurd H (by simp)
             ·
              rw [if_neg c232] at H
              exact absurd H (by simp)
            ·
             rw [if_neg c231] at H
             exact absurd H (by simp)
           ·
            rw [if_neg c230] at H
            have c230b0 : (a2_0 == 6) = false := beq_eq_false_iff_ne.mpr c230
            have c230b1 : (a2_0 != 6) = true := bne_iff_ne.mpr c230
            by_cases c255 : a2_0 = 7
            ·
             rw [if_pos c255] at H
             have c255b0 : (a2_0 == 7) = true := beq_iff_eq.mpr c255
             have c255b1 : (a2_0 != 7) = false := bne_eq_false_iff_eq.mpr c255
             clear c255
             simp only [Option.some.injEq, Prod.mk.injEq] at H
             obtain ⟨rfl, rfl, rfl, rfl, rfl, rfl⟩ := H
             have hnb256 := Nba.out
             have hnc256 := Nab.out
             have hnb257 := Nbc.out
             have hnc257 := Ncb.out
             have hnb258 := Nbd.out
             have hnc258 := Ndb.out
             have hnb259 := Nbe.out
             have hnc259 := Neb.out
             have hcz260_0 : wc.cell? ⟨gb, 0, none⟩ = some (.int .i64 a2_0) := (blk_cell Bb_.out 0).trans rfl
             have hcz260_1 : wc.cell? ⟨gb, 1, none⟩ = some (.int .i64 a2_1) := (blk_cell Bb_.out 1).trans rfl
             have hfz260_0 := blk_frozen Bb_.out 0
             have hfz260_1 := blk_frozen Bb_.out 1
             have hnb261 := Nac.out
             have hnc261 := Nca.out
             have hnb262 := Nad.out
             have hnc262 := Nda.out
             have hnb263 := Nae.out
             have hnc263 := Nea.out
             have hcz264_0 : wc.cell? ⟨ga, 0, none⟩ = some (.int .i64 a1_0) := (blk_cell Ba_.out 0).trans rfl
             have hcz264_1 : wc.cell? ⟨ga, 1, none⟩ = some (.int .i64 a1_1) := (blk_cell Ba_.out 1).trans rfl
             have hfz264_0 := blk_frozen Ba_.out 0
             have hfz264_1 := blk_frozen Ba_.out 1
             have hnb265 := Nec.out
             have hnc265 := Nce.out
             have hnb266 := Ned.out
             have hnc266 := Nde.out
             have hcz267_0 : wc.cell? ⟨ge, 0, none⟩ = some (.int .i64 0) := (blk_cell Be_.out 0).trans rfl
             have hcz267_1 : wc.cell? ⟨ge, 1, none⟩ = some (.int .i64 0) := (blk_cell Be_.out 1).trans rfl
             have hcz267_2 : wc.cell? ⟨ge, 2, none⟩ = some (.string (⟨#[]⟩ : ByteArray)) := (blk_cell Be_.out 2).trans rfl
             have hfz267_0 := blk_frozen Be_.out 0
             have hfz267_1 := blk_frozen Be_.out 1
             have hfz267_2 := blk_frozen Be_.out 2
             try go_wp2
             have m0 : Aside0 ((wc.setCell ⟨ge, 0, none⟩ (.int .i64 (wrap64 (a1_1 - a1_0)))).heap[ga]? = some (.cells #[.int .i64 a1_0, .int .i64 a1_1] 64 (0, 0))) := ⟨by (with_reducible repeat first | refine bN_ ?_ _ | refine bD_ ?_ | refine bA_ ?_ _); refine blk_far ?_ Nae.out _; (with_reducible repeat first | refine bN_ ?_ _ | refine bD_ ?_ | refine bA_ ?_ _); exact Ba_.out⟩
             have m1 : Aside0 ((wc.setCell ⟨ge, 0, none⟩ (.int .i64 (wrap64 (a1_1 - a1_0)))).heap[gb]? = some (.cells #[.int .i64 a2_0, .int .i64 a2_1] 44 (0, 0))) := ⟨by (with_reducible repeat first | refine bN_ ?_ _ | refine bD_ ?_ | refine bA_ ?_ _); refine blk_far ?_ Nbe.out _; (with_reducible repeat first | refine bN_ ?_ _ | refine bD_ ?_ | refine bA_ ?_ _); exact Bb_.out⟩
             have m2 : Aside0 ((wc.setCell ⟨ge, 0, none⟩ (.int .i64 (wrap64 (a1_1 - a1_0)))).heap[gc]? = some (.cells #[.int .i64 0, .int .i64 0] 64 (0, 0))) := ⟨by (with_reducible repeat first | refine bN_ ?_ _ | refine bD_ ?_ | refine bA_ ?_ _); refine blk_far ?_ Nce.out _; (with_reducible repeat first | refine bN_ ?_ _ | refine bD_ ?_ | refine bA_ ?_ _); exact Bc_.out⟩
             have m3 : Aside0 ((wc.setCell ⟨ge, 0, none⟩ (.int .i64 (wrap64 (a1_1 - a1_0)))).heap[gd]? = some (.cells #[.int .i64 0, .int .i64 0, .string (⟨#[]⟩ : ByteArray)] 46 (0, 0))) := ⟨by (with_reducible repeat first | refine bN_ ?_ _ | refine bD_ ?_ | refine bA_ ?_ _); refine blk_far ?_ Nde.out _; (with_reducible repeat first | refine bN_ ?_ _ | refine bD_ ?_ | refine bA_ ?_ _); exact Bd_.out⟩
             have m4 : Aside0 ((wc.setCell ⟨ge, 0, none⟩ (.int .i64 (wrap64 (a1_1 - a1_0)))).heap[ge]? = some (.cells #[.int .i64 (wrap64 (a1_1 - a1_0)), .int .i64 0, .string (⟨#[]⟩ : ByteArray)] 46 (0, 0))) := ⟨by (with_reducible repeat first | refine bN_ ?_ _ | refine bD_ ?_ | refine bA_ ?_ _); refine blk_put (cs := #[.int .i64 0, .int .i64 0, .string (⟨#[]⟩ : ByteArray)]) ?_ 0 _ rfl; (with_reducible repeat first | refine bN_ ?_ _ | refine bD_ ?_ | refine bA_ ?_ _); exact Be_.out⟩
             have m5 : Aside0 (Below w.heap.size w (wc.setCell ⟨ge, 0, none⟩ (.int .i64 (wrap64 (a1_1 - a1_0))))) := ⟨by repeat (first | (with_reducible first | exact HB.out | apply below_alloc | apply pw_below_drewN | apply below_drew1 | refine below_set ?_ GE112.out | refine below_set ?_ GE113.out | refine below_set ?_ GE114.out | refine below_set ?_ GE115.out | refine below_set ?_ GE116.out) | exact HB.out)⟩
             (try clear Ba_)
             (try clear Bb_)
             (try clear Bc_)
             (try clear Bd_)
             (try clear Be_)
             (try clear HB)
             generalize (wc.setCell ⟨ge, 0, none⟩ (.int .i64 (wrap64 (a1_1 - a1_0)))) = w268 at m0 m1 m2 m3 m4 m5 ⊢
             have Ba_ := m0
             have Bb_ := m1
             have Bc_ := m2
             have Bd_ := m3
             have Be_ := m4
             have HB := m5
             clear m0 m1 m2 m3 m4 m5
             have m0 := Aside0.mk (blk_drew Ba_.out)
             have m1 := Aside0.mk (blk_drew Bb_.out)
             have m2 := Aside0.mk (blk_drew Bc_.out)
             have m3 := Aside0.mk (blk_drew Bd_.out)
             have m4 := Aside0.mk (blk_drew Be_.out)
             have m5 := Aside0.mk (below_drew1 HB.out)
             clear Ba_
             clear Bb_
             clear Bc_
             clear Bd_
             clear Be_
             clear HB
             have Ba_ := m0
             have Bb_ := m1
             have Bc_ := m2
             have Bd_ := m3
             have Be_ := m4
             have HB := m5
             clear m0 m1 m2 m3 m4 m5
             refine start_ (n := 5) (S := fun w' => w'.cell? ⟨ga, 0, none⟩ = some (.int .i64 a1_0) ∧ w'.cell? ⟨ga, 1, none⟩ = some (.int .i64 a1_1) ∧ w'.cell? ⟨ge, 0, none⟩ = some (.int .i64 (wrap64 (a1_1 - a1_0))) ∧ w'.cell? ⟨ge, 1, none⟩ = some (.int .i64 0) ∧ w'.cell? ⟨ge, 2, none⟩ = some (.string (⟨#[]⟩ : ByteArray))) (ds := []) #[false, false, false, false, false] (by kernel_rfl) rfl rfl ⟨(blk_cell Ba_.out 0).trans rfl, (blk_cell Ba_.out 1).trans rfl, (blk_cell Be_.out 0).trans rfl, (blk_cell Be_.out 1).trans rfl, (blk_cell Be_.out 2).trans rfl⟩ (fun hH => ?_)
             generalize w268.drew = w269 at Ba_ Bb_ Bc_ Bd_ Be_ HB hH ⊢
             refine take_ (i := 0) (N := some 191) (v := ?_) (a' := ?_) #[true, false, false, false, false] rfl rfl (by kernel_rfl) (fun _ _ _ h => h) (Or.inl ⟨by rfl, ?_⟩) hH ?_ ?_
             rotate_left
             ·
              rintro w' ⟨s0, s1, s2, s3, s4⟩
              go_simp
              with_reducible rfl
             rotate_left
             ·
              simp only [Act.put, List.setIfInBounds_toArray, List.set_cons_zero, List.set_cons_succ, i64_w, i32_w]
              rfl
             refine take_ (i := 1) (N := some 192) (v := ?_) (a' := ?_) #[true, true, false, false, false] rfl rfl (by kernel_rfl) (fun _ _ _ h => h) (Or.inl ⟨by rfl, ?_⟩) hH ?_ ?_
             rotate_left
             ·
              rintro w' ⟨s0, s1, s2, s3, s4⟩
              go_simp
              with_reducible rfl
             rotate_left
             ·
              simp only [Act.put, List.setIfInBounds_toArray, List.set_cons_zero, List.set_cons_succ, i64_w, i32_w]
              rfl
             refine one_ (i := 2) (N := none) #[true, true, true, false, false] rfl rfl (by kernel_rfl) (by decide) (fun K hK => ?_)
             have hs270 : w269.cell? ⟨gc, 0, none⟩ = some (.int .i64 0) := (blk_cell Bc_.out 0).trans rfl
             have hfs270 := blk_frozen Bc_.out 0
             have hns270_0 := Nac.out
             have hns270_1 := Nbc.out
             have hns270_3 := Ndc.out
             have hns270_4 := Nec.out
             have hms270_0 := Nca.out
             have hms270_1 := Ncb.out
             have hms270_3 := Ncd.out
             have hms270_4 := Nce.out
             have hs271 : w269.cell? ⟨gc, 1, none⟩ = some (.int .i64 0) := (blk_cell Bc_.out 1).trans rfl
             have hfs271 := blk_frozen Bc_.out 1
             have hns271_0 := Nac.out
             have hns271_1 := Nbc.out
             have hns271_3 := Ndc.out
             have hns271_4 := Nec.out
             have hms271_0 := Nca.out
             have hms271_1 := Ncb.out
             have hms271_3 := Ncd.out
             have hms271_4 := Nce.out
             refine skip_ (w1 := ?_) (by rfl) rfl ?_ ?_
             rotate_left
             ·
              go_simp
              rfl
             refine hK.out _ _ ⟨((cf_ Nac.out _).trans (((cf_ Nac.out _).trans (hH.1)))), ((cf_ Nac.out _).trans (((cf_ Nac.out _).trans (hH.2.1)))), ((cf_ Nec.out _).trans (((cf_ Nec.out _).trans (hH.2.2.1)))), ((cf_ Nec.out _).trans (((cf_ Nec.out _).trans (hH.2.2.2.1)))), ((cf_ Nec.out _).trans (((cf_ Nec.out _).trans (hH.2.2.2.2))))⟩ (fun hH => ?_)
             clear hK K
             refine one_ (i := 3) (N := none) #[true, true, true, true, false] rfl rfl (by kernel_rfl) (by decide) (fun K hK => ?_)
             have hs272 : w269.cell? ⟨gd, 0, none⟩ = some (.int .i64 0) := (blk_cell Bd_.out 0).trans rfl
             have hfs272 := blk_frozen Bd_.out 0
             have hns272_0 := Nad.out
             have hns272_1 := Nbd.out
             have hns272_2 := Ncd.out
             have hns272_4 := Ned.out
             have hms272_0 := Nda.out
             have hms272_1 := Ndb.out
             have hms272_2 := Ndc.out
             have hms272_4 := Nde.out
             have hs273 : w269.cell? ⟨gd, 1, none⟩ = some (.int .i64 0) := (blk_cell Bd_.out 1).trans rfl
             have hfs273 := blk_frozen Bd_.out 1
             have hns273_0 := Nad.out
             have hns273_1 := Nbd.out
             have hns273_2 := Ncd.out
             have hns273_4 := Ned.out
             have hms273_0 := Nda.out
             have hms273_1 := Ndb.out
             have hms273_2 := Ndc.out
             have hms273_4 := Nde.out
             have hs274 : w269.cell? ⟨gd, 2, none⟩ = some (.string (⟨#[]⟩ : ByteArray)) := (blk_cell Bd_.out 2).trans rfl
             have hfs274 := blk_frozen Bd_.out 2
             have hns274_0 := Nad.out
             have hns274_1 := Nbd.out
             have hns274_2 := Ncd.out
             have hns274_4 := Ned.out
             have hms274_0 := Nda.out
             have hms274_1 := Ndb.out
             have hms274_2 := Ndc.out
             have hms274_4 := Nde.out
             refine skip_ (w1 := ?_) (by rfl) rfl ?_ ?_
             rotate_left
             ·
              go_simp
              rfl
             refine hK.out _ _ ⟨((cf_ Nad.out _).trans (((cf_ Nad.out _).trans (((cf_ Nad.out _).trans (hH.1)))))), ((cf_ Nad.out _).trans (((cf_ Nad.out _).trans (((cf_ Nad.out _).trans (hH.2.1)))))), ((cf_ Ned.out _).trans (((cf_ Ned.out _).trans (((cf_ Ned.out _).trans (hH.2.2.1)))))), ((cf_ Ned.out _).trans (((cf_ Ned.out _).trans (((cf_ Ned.out _).trans (hH.2.2.2.1)))))), ((cf_ Ned.out _).trans (((cf_ Ned.out _).trans (((cf_ Ned.out _).trans (hH.2.2.2.2))))))⟩ (fun hH => ?_)
             clear hK K
             refine pure_ (i := 4) (N := some 8) (v := ?_) (a' := ?_) #[true, true, true, true, true] rfl rfl (by kernel_rfl) (fun _ _ _ h => h) (Or.inl ⟨by rfl, ?_⟩) ?_ ?_
             rotate_left
             ·
              intro w'
              go_simp
              with_reducible rfl
             rotate_left
             ·
              simp only [Act.put, List.setIfInBounds_toArray, List.set_cons_zero, List.set_cons_succ, i64_w, i32_w]
              rfl
             refine done_ (by kernel_rfl) ?_
             try go_wp2
             refine bodyPost_ret (results_list (rs := [.cell 6 64, .cell 7 46, .tmp 8]) rfl (by simp) (.cell gc 64 #[.int .i64 a1_0, .int .i64 a1_1] (0, 0) _ rfl (by (with_reducible repeat first | refine bN_ ?_ _ | refine bD_ ?_ | refine bA_ ?_ _); refine blk_far ?_ Ncd.out _; (with_reducible repeat first | refine bN_ ?_ _ | refine bD_ ?_ | refine bA_ ?_ _); refine blk_far ?_ Ncd.out _; (with_reducible repeat first | refine bN_ ?_ _ | refine bD_ ?_ | refine bA_ ?_ _); refine blk_far ?_ Ncd.out _; (with_reducible repeat first | refine bN_ ?_ _ | refine bD_ ?_ | refine bA_ ?_ _); refine blk_put (cs := #[.int .i64 a1_0, .int .i64 0]) ?_ 1 _ rfl; (with_reducible repeat first | refine bN_ ?_ _ | refine bD_ ?_ | refine bA_ ?_ _); refine blk_put (cs := #[.int .i64 0, .int .i64 0]) ?_ 0 _ rfl; (with_reducible repeat first | refine bN_ ?_ _ | refine bD_ ?_ | refine bA_ ?_ _); exact Bc_.out) Tryd.underlying64 rfl (by kernel_rfl) (.cell gd 46 #[.int .i64 (wrap64 (a1_1 - a1_0)), .int .i64 0, .string (⟨#[]⟩ : ByteArray)] (0, 0) _ rfl (by (with_reducible repeat first | refine bN_ ?_ _ | refine bD_ ?_ | refine bA_ ?_ _); refine blk_put (cs := #[.int .i64 (wrap64 (a1_1 - a1_0)), .int .i64 0, .string (⟨#[]⟩ : ByteArray)]) ?_ 2 _ rfl; (with_reducible repeat first | refine bN_ ?_ _ | refine bD_ ?_ | refine bA_ ?_ _); refine blk_put (cs := #[.int .i64 (wrap64 (a1_1 - a1_0)), .int .i64 0, .string (⟨#[]⟩ : ByteArray)]) ?_ 1 _ rfl; (with_reducible repeat first | refine bN_ ?_ _ | refine bD_ ?_ | refine bA_ ?_ _); refine blk_put (cs := #[.int .i64 0, .int .i64 0, .string (⟨#[]⟩ : ByteArray)]) ?_ 0 _ rfl; (with_reducible repeat first | refine bN_ ?_ _ | refine bD_ ?_ | refine bA_ ?_ _); refine blk_far ?_ Ndc.out _; (with_reducible repeat first | refine bN_ ?_ _ | refine bD_ ?_ | refine bA_ ?_ _); refine blk_far ?_ Ndc.out _; (with_reducible repeat first | refine bN_ ?_ _ | refine bD_ ?_ | refine bA_ ?_ _); exact Bd_.out) Tryd.underlying46 rfl (by kernel_rfl) (.tmp .nil)))) rfl ?_
             exact ⟨by first | rfl | (simp [errW_none, errW_some] <;> rfl), by repeat (first | (with_reducible first | exact HB.out | apply below_alloc | apply pw_below_drewN | apply below_drew1 | refine below_set ?_ GE112.out | refine below_set ?_ GE113.out | refine below_set ?_ GE114.out | refine below_set ?_ GE115.out | refine below_set ?_ GE116.out) | exact HB.out)⟩
            ·
             rw [if_neg c255] at H
             have c255b0 : (a2_0 == 7) = false := beq_eq_false_iff_ne.mpr c255
             have c255b1 : (a2_0 != 7) = true := bne_iff_ne.mpr c255
             by_cases c275 : a2_0 = 8
             ·
              rw [if_pos c275] at H
              have c275b0 : (a2_0 == 8) = true := beq_iff_eq.mpr c275
              have c275b1 : (a2_0 != 8) = false := bne_eq_false_iff_eq.mpr c275
              clear c275
              simp only [Option.some.injEq, Prod.mk.injEq] at H
              obtain ⟨rfl, rfl, rfl, rfl, rfl, rfl⟩ := H
              have hnb276 := Nba.out
              have hnc276 := Nab.out
              have hnb277 := Nbc.out
              have hnc277 := Ncb.out
              have hnb278 := Nbd.out
              have hnc278 := Ndb.out
              have hnb279 := Nbe.out
              have hnc279 := Neb.out
              have hcz280_0 : wc.cell? ⟨gb, 0, none⟩ = some (.int .i64 a2_0) := (blk_cell Bb_.out 0).trans rfl
              have hcz280_1 : wc.cell? ⟨gb, 1, none⟩ = some (.int .i64 a2_1) := (blk_cell Bb_.out 1).trans rfl
              have hfz280_0 := blk_frozen Bb_.out 0
              have hfz280_1 := blk_frozen Bb_.out 1
              have hnb281 := Nac.out
              have hnc281 := Nca.out
              have hnb282 := Nad.out
              have hnc282 := Nda.out
              have hnb283 := Nae.out
              have hnc283 := Nea.out
              have hcz284_0 : wc.cell? ⟨ga, 0, none⟩ = some (.int .i64 a1_0) := (blk_cell Ba_.out 0).trans rfl
              have hcz284_1 : wc.cell? ⟨ga, 1, none⟩ = some (.int .i64 a1_1) := (blk_cell Ba_.out 1).trans rfl
              have hfz284_0 := blk_frozen Ba_.out 0
              have hfz284_1 := blk_frozen Ba_.out 1
              have hnb285 := Nec.out
              have hnc285 := Nce.out
              have hnb286 := Ned.out
              have hnc286 := Nde.out
              have hcz287_0 : wc.cell? ⟨ge, 0, none⟩ = some (.int .i64 0) := (blk_cell Be_.out 0).trans rfl
              have hcz287_1 : wc.cell? ⟨ge, 1, none⟩ = some (.int .i64 0) := (blk_cell Be_.out 1).trans rfl
              have hcz287_2 : wc.cell? ⟨ge, 2, none⟩ = some (.string (⟨#[]⟩ : ByteArray)) := (blk_cell Be_.out 2).trans rfl
              have hfz287_0 := blk_frozen Be_.out 0
              have hfz287_1 := blk_frozen Be_.out 1
              have hfz287_2 := blk_frozen Be_.out 2
              try go_wp2
              have m0 : Aside0 ((wc.setCell ⟨ge, 0, none⟩ (.int .i64 a1_1)).heap[ga]? = some (.cells #[.int .i64 a1_0, .int .i64 a1_1] 64 (0, 0))) := ⟨by (with_reducible repeat first | refine bN_ ?_ _ | refine bD_ ?_ | refine bA_ ?_ _); refine blk_far ?_ Nae.out _; (with_reducible repeat first | refine bN_ ?_ _ | refine bD_ ?_ | refine bA_ ?_ _); exact Ba_.out⟩
              have m1 : Aside0 ((wc.setCell ⟨ge, 0, none⟩ (.int .i64 a1_1)).heap[gb]? = some (.cells #[.int .i64 a2_0, .int .i64 a2_1] 44 (0, 0))) := ⟨by (with_reducible repeat first | refine bN_ ?_ _ | refine bD_ ?_ | refine bA_ ?_ _); refine blk_far ?_ Nbe.out _; (with_reducible repeat first | refine bN_ ?_ _ | refine bD_ ?_ | refine bA_ ?_ _); exact Bb_.out⟩
              have m2 : Aside0 ((wc.setCell ⟨ge, 0, none⟩ (.int .i64 a1_1)).heap[gc]? = some (.cells #[.int .i64 0, .int .i64 0] 64 (0, 0))) := ⟨by (with_reducible repeat first | refine bN_ ?_ _ | refine bD_ ?_ | refine bA_ ?_ _); refine blk_far ?_ Nce.out _; (with_reducible repeat first | refine bN_ ?_ _ | refine bD_ ?_ | refine bA_ ?_ _); exact Bc_.out⟩
              have m3 : Aside0 ((wc.setCell ⟨ge, 0, none⟩ (.int .i64 a1_1)).heap[gd]? = some (.cells #[.int .i64 0, .int .i64 0, .string (⟨#[]⟩ : ByteArray)] 46 (0, 0))) := ⟨by (with_reducible repeat first | refine bN_ ?_ _ | refine bD_ ?_ | refine bA_ ?_ _); refine blk_far ?_ Nde.out _; (with_reducible repeat first | refine bN_ ?_ _ | refine bD_ ?_ | refine bA_ ?_ _); exact Bd_.out⟩
              have m4 : Aside0 ((wc.setCell ⟨ge, 0, none⟩ (.int .i64 a1_1)).heap[ge]? = some (.cells #[.int .i64 a1_1, .int .i64 0, .string (⟨#[]⟩ : ByteArray)] 46 (0, 0))) := ⟨by (with_reducible repeat first | refine bN_ ?_ _ | refine bD_ ?_ | refine bA_ ?_ _); refine blk_put (cs := #[.int .i64 0, .int .i64 0, .string (⟨#[]⟩ : ByteArray)]) ?_ 0 _ rfl; (with_reducible repeat first | refine bN_ ?_ _ | refine bD_ ?_ | refine bA_ ?_ _); exact Be_.out⟩
              have m5 : Aside0 (Below w.heap.size w (wc.setCell ⟨ge, 0, none⟩ (.int .i64 a1_1))) := ⟨by repeat (first | (with_reducible first | exact HB.out | apply below_alloc | apply pw_below_drewN | apply below_drew1 | refine below_set ?_ GE112.out | refine below_set ?_ GE113.out | refine below_set ?_ GE114.out | refine below_set ?_ GE115.out | refine below_set ?_ GE116.out) | exact HB.out)⟩
              (try clear Ba_)
              (try clear Bb_)
              (try clear Bc_)
              (try clear Bd_)
              (try clear Be_)
              (try clear HB)
              generalize (wc.setCell ⟨ge, 0, none⟩ (.int .i64 a1_1)) = w288 at m0 m1 m2 m3 m4 m5 ⊢
              have Ba_ := m0
              have Bb_ := m1
              have Bc_ := m2
              have Bd_ := m3
              have Be_ := m4
              have HB := m5
              clear m0 m1 m2 m3 m4 m5
              have m0 := Aside0.mk (blk_drew Ba_.out)
              have m1 := Aside0.mk (blk_drew Bb_.out)
              have m2 := Aside0.mk (blk_drew Bc_.out)
              have m3 := Aside0.mk (blk_drew Bd_.out)
              have m4 := Aside0.mk (blk_drew Be_.out)
              have m5 := Aside0.mk (below_drew1 HB.out)
              clear Ba_
              clear Bb_
              clear Bc_
              clear Bd_
              clear Be_
              clear HB
              have Ba_ := m0
              have Bb_ := m1
              have Bc_ := m2
              have Bd_ := m3
              have Be_ := m4
              have HB := m5
              clear m0 m1 m2 m3 m4 m5
              refine start_ (n := 5) (S := fun w' => w'.cell? ⟨ga, 0, none⟩ = some (.int .i64 a1_0) ∧ w'.cell? ⟨ga, 1, none⟩ = some (.int .i64 a1_1) ∧ w'.cell? ⟨ge, 0, none⟩ = some (.int .i64 a1_1) ∧ w'.cell? ⟨ge, 1, none⟩ = some (.int .i64 0) ∧ w'.cell? ⟨ge, 2, none⟩ = some (.string (⟨#[]⟩ : ByteArray))) (ds := []) #[false, false, false, false, false] (by kernel_rfl) rfl rfl ⟨(blk_cell Ba_.out 0).trans rfl, (blk_cell Ba_.out 1).trans rfl, (blk_cell Be_.out 0).trans rfl, (blk_cell Be_.out 1).trans rfl, (blk_cell Be_.out 2).trans rfl⟩ (fun hH => ?_)
              generalize w288.drew = w289 at Ba_ Bb_ Bc_ Bd_ Be_ HB hH ⊢
              refine take_ (i := 0) (N := some 191) (v := ?_) (a' := ?_) #[true, false, false, false, false] rfl rfl (by kernel_rfl) (fun _ _ _ h => h) (Or.inl ⟨by rfl, ?_⟩) hH ?_ ?_
              rotate_left
              ·
               rintro w' ⟨s0, s1, s2, s3, s4⟩
               go_simp
               with_reducible rfl
              rotate_left
              ·
               simp only [Act.put, List.setIfInBounds_toArray, List.set_cons_zero, List.set_cons_succ, i64_w, i32_w]
               rfl
              refine take_ (i := 1) (N := some 192) (v := ?_) (a' := ?_) #[true, true, false, false, false] rfl rfl (by kernel_rfl) (fun _ _ _ h => h) (Or.inl ⟨by rfl, ?_⟩) hH ?_ ?_
              rotate_left
              ·
               rintro w' ⟨s0, s1, s2, s3, s4⟩
               go_simp
               with_reducible rfl
              rotate_left
              ·
               simp only [Act.put, List.setIfInBounds_toArray, List.set_cons_zero, List.set_cons_succ, i64_w, i32_w]
               rfl
              refine one_ (i := 2) (N := none) #[true, true, true, false, false] rfl rfl (by kernel_rfl) (by decide) (fun K hK => ?_)
              have hs290 : w289.cell? ⟨gc, 0, none⟩ = some (.int .i64 0) := (blk_cell Bc_.out 0).trans rfl
              have hfs290 := blk_frozen Bc_.out 0
              have hns290_0 := Nac.out
              have hns290_1 := Nbc.out
              have hns290_3 := Ndc.out
              have hns290_4 := Nec.out
              have hms290_0 := Nca.out
              have hms290_1 := Ncb.out
              have hms290_3 := Ncd.out
              have hms290_4 := Nce.out
              have hs291 : w289.cell? ⟨gc, 1, none⟩ = some (.int .i64 0) := (blk_cell Bc_.out 1).trans rfl
              have hfs291 := blk_frozen Bc_.out 1
              have hns291_0 := Nac.out
              have hns291_1 := Nbc.out
              have hns291_3 := Ndc.out
              have hns291_4 := Nec.out
              have hms291_0 := Nca.out
              have hms291_1 := Ncb.out
              have hms291_3 := Ncd.out
              have hms291_4 := Nce.out
              refine skip_ (w1 := ?_) (by rfl) rfl ?_ ?_
              rotate_left
              ·
               go_simp
               rfl
              refine hK.out _ _ ⟨((cf_ Nac.out _).trans (((cf_ Nac.out _).trans (hH.1)))), ((cf_ Nac.out _).trans (((cf_ Nac.out _).trans (hH.2.1)))), ((cf_ Nec.out _).trans (((cf_ Nec.out _).trans (hH.2.2.1)))), ((cf_ Nec.out _).trans (((cf_ Nec.out _).trans (hH.2.2.2.1)))), ((cf_ Nec.out _).trans (((cf_ Nec.out _).trans (hH.2.2.2.2))))⟩ (fun hH => ?_)
              clear hK K
              refine one_ (i := 3) (N := none) #[true, true, true, true, false] rfl rfl (by kernel_rfl) (by decide) (fun K hK => ?_)
              have hs292 : w289.cell? ⟨gd, 0, none⟩ = some (.int .i64 0) := (blk_cell Bd_.out 0).trans rfl
              have hfs292 := blk_frozen Bd_.out 0
              have hns292_0 := Nad.out
              have hns292_1 := Nbd.out
              have hns292_2 := Ncd.out
              have hns292_4 := Ned.out
              have hms292_0 := Nda.out
              have hms292_1 := Ndb.out
              have hms292_2 := Ndc.out
              have hms292_4 := Nde.out
              have hs293 : w289.cell? ⟨gd, 1, none⟩ = some (.int .i64 0) := (blk_cell Bd_.out 1).trans rfl
              have hfs293 := blk_frozen Bd_.out 1
              have hns293_0 := Nad.out
              have hns293_1 := Nbd.out
              have hns293_2 := Ncd.out
              have hns293_4 := Ned.out
              have hms293_0 := Nda.out
              have hms293_1 := Ndb.out
              have hms293_2 := Ndc.out
              have hms293_4 := Nde.out
              have hs294 : w289.cell? ⟨gd, 2, none⟩ = some (.string (⟨#[]⟩ : ByteArray)) := (blk_cell Bd_.out 2).trans rfl
              have hfs294 := blk_frozen Bd_.out 2
              have hns294_0 := Nad.out
              have hns294_1 := Nbd.out
              have hns294_2 := Ncd.out
              have hns294_4 := Ned.out
              have hms294_0 := Nda.out
              have hms294_1 := Ndb.out
              have hms294_2 := Ndc.out
              have hms294_4 := Nde.out
              refine skip_ (w1 := ?_) (by rfl) rfl ?_ ?_
              rotate_left
              ·
               go_simp
               rfl
              refine hK.out _ _ ⟨((cf_ Nad.out _).trans (((cf_ Nad.out _).trans (((cf_ Nad.out _).trans (hH.1)))))), ((cf_ Nad.out _).trans (((cf_ Nad.out _).trans (((cf_ Nad.out _).trans (hH.2.1)))))), ((cf_ Ned.out _).trans (((cf_ Ned.out _).trans (((cf_ Ned.out _).trans (hH.2.2.1)))))), ((cf_ Ned.out _).trans (((cf_ Ned.out _).trans (((cf_ Ned.out _).trans (hH.2.2.2.1)))))), ((cf_ Ned.out _).trans (((cf_ Ned.out _).trans (((cf_ Ned.out _).trans (hH.2.2.2.2))))))⟩ (fun hH => ?_)
              clear hK K
              refine pure_ (i := 4) (N := some 8) (v := ?_) (a' := ?_) #[true, true, true, true, true] rfl rfl (by kernel_rfl) (fun _ _ _ h => h) (Or.inl ⟨by rfl, ?_⟩) ?_ ?_
              rotate_left
              ·
               intro w'
               go_simp
               with_reducible rfl
              rotate_left
              ·
               simp only [Act.put, List.setIfInBounds_toArray, List.set_cons_zero, List.set_cons_succ, i64_w, i32_w]
               rfl
              refine done_ (by kernel_rfl) ?_
              try go_wp2
              refine bodyPost_ret (results_list (rs := [.cell 6 64, .cell 7 46, .tmp 8]) rfl (by simp) (.cell gc 64 #[.int .i64 a1_0, .int .i64 a1_1] (0, 0) _ rfl (by (with_reducible repeat first | refine bN_ ?_ _ | refine bD_ ?_ | refine bA_ ?_ _); refine blk_far ?_ Ncd.out _; (with_reducible repeat first | refine bN_ ?_ _ | refine bD_ ?_ | refine bA_ ?_ _); refine blk_far ?_ Ncd.out _; (with_reducible repeat first | refine bN_ ?_ _ | refine bD_ ?_ | refine bA_ ?_ _); refine blk_far ?_ Ncd.out _; (with_reducible repeat first | refine bN_ ?_ _ | refine bD_ ?_ | refine bA_ ?_ _); refine blk_put (cs := #[.int .i64 a1_0, .int .i64 0]) ?_ 1 _ rfl; (with_reducible repeat first | refine bN_ ?_ _ | refine bD_ ?_ | refine bA_ ?_ _); refine blk_put (cs := #[.int .i64 0, .int .i64 0]) ?_ 0 _ rfl; (with_reducible repeat first | refine bN_ ?_ _ | refine bD_ ?_ | refine bA_ ?_ _); exact Bc_.out) Tryd.underlying64 rfl (by kernel_rfl) (.cell gd 46 #[.int .i64 a1_1, .int .i64 0, .string (⟨#[]⟩ : ByteArray)] (0, 0) _ rfl (by (with_reducible repeat first | refine bN_ ?_ _ | refine bD_ ?_ | refine bA_ ?_ _); refine blk_put (cs := #[.int .i64 a1_1, .int .i64 0, .string (⟨#[]⟩ : ByteArray)]) ?_ 2 _ rfl; (with_reducible repeat first | refine bN_ ?_ _ | refine bD_ ?_ | refine bA_ ?_ _); refine blk_put (cs := #[.int .i64 a1_1, .int .i64 0, .string (⟨#[]⟩ : ByteArray)]) ?_ 1 _ rfl; (with_reducible repeat first | refine bN_ ?_ _ | refine bD_ ?_ | refine bA_ ?_ _); refine blk_put (cs := #[.int .i64 0, .int .i64 0, .string (⟨#[]⟩ : ByteArray)]) ?_ 0 _ rfl; (with_reducible repeat first | refine bN_ ?_ _ | refine bD_ ?_ | refine bA_ ?_ _); refine blk_far ?_ Ndc.out _; (with_reducible repeat first | refine bN_ ?_ _ | refine bD_ ?_ | refine bA_ ?_ _); refine blk_far ?_ Ndc.out _; (with_reducible repeat first | refine bN_ ?_ _ | refine bD_ ?_ | refine bA_ ?_ _); exact Bd_.out) Tryd.underlying46 rfl (by kernel_rfl) (.tmp .nil)))) rfl ?_
              exact ⟨by first | rfl | (simp [errW_none, errW_some] <;> rfl), by repeat (first | (with_reducible first | exact HB.out | apply below_alloc | apply pw_below_drewN | apply below_drew1 | refine below_set ?_ GE112.out | refine below_set ?_ GE113.out | refine below_set ?_ GE114.out | refine below_set ?_ GE115.out | refine below_set ?_ GE116.out) | exact HB.out)⟩
             ·
              rw [if_neg c275] at H
              have c275b0 : (a2_0 == 8) = false := beq_eq_false_iff_ne.mpr c275
              have c275b1 : (a2_0 != 8) = true := bne_iff_ne.mpr c275
              by_cases c295 : a2_0 = 9
              ·
               rw [if_pos c295] at H
               have c295b0 : (a2_0 == 9) = true := beq_iff_eq.mpr c295
               have c295b1 : (a2_0 != 9) = false := bne_eq_false_iff_eq.mpr c295
               clear c295
               by_cases c296 : x11_3 = true
               ·
                subst c296
                have H1 : ((spec_RuneAt.f kj3 l0 (wrap64 (a1_1 + a2_1))).bind fun bt120 => (some (a1_0, a1_1, bt120.1, bt120.2, (⟨#[]⟩ : ByteArray), decide (bt120.1 > 0)))) = some (r1, r2, r3, r4, r5, r6) := by rw [if_pos rfl] at H; exact H
                clear H
                have H := H1
                clear H1
                replace H := Option.bind_eq_some_iff.mp H
                obtain ⟨⟨t120, t121⟩, A2970, H⟩ := H
                replace H : (some (a1_0, a1_1, t120, t121, (⟨#[]⟩ : ByteArray), decide (t120 > 0))) = some (r1, r2, r3, r4, r5, r6) := H
                have A297 := Aside0.mk A2970
                clear A2970
                simp only [Option.some.injEq, Prod.mk.injEq] at H
                obtain ⟨rfl, rfl, rfl, rfl, rfl, rfl⟩ := H
                have hnb298 := Nba.out
                have hnc298 := Nab.out
                have hnb299 := Nbc.out
                have hnc299 := Ncb.out
                have hnb300 := Nbd.out
                have hnc300 := Ndb.out
                have hnb301 := Nbe.out
                have hnc301 := Neb.out
                have hcz302_0 : wc.cell? ⟨gb, 0, none⟩ = some (.int .i64 a2_0) := (blk_cell Bb_.out 0).trans rfl
                have hcz302_1 : wc.cell? ⟨gb, 1, none⟩ = some (.int .i64 a2_1) := (blk_cell Bb_.out 1).trans rfl
                have hfz302_0 := blk_frozen Bb_.out 0
                have hfz302_1 := blk_frozen Bb_.out 1
                try go_wp2_with (first | ((with_reducible refine gate_callee (f := 67) rfl ?_); refine goesL_ (some 159) rfl rfl Tryd.func67 (by kernel_rfl) rfl #[.slice A0 l0.length c0, .int .i64 (wrap64 (a1_1 + a2_1))] rfl (by first | rfl | (simp only [List.map_toArray, List.map_cons, List.map_nil]; try rfl)) ?_; (with_reducible refine (spec_RuneAt.calls kj3 _ _ l0 (wrap64 (a1_1 + a2_1)) t120 t121 _ ?side1 ?side2 A297.out).mono ?_); (case side1 => repeat (first | exact (Kd.C_below HR0.out HB.out) | (with_reducible refine Kd.C_alloc ?_ _) | (with_reducible refine Kd.C_drewN ?_ _) | (with_reducible refine Kd.C_drew ?_))); (case side2 => exact HC0.out); rintro e w' ⟨rfl, ⟨nd, rfl⟩⟩; refine ⟨_, rfl, ?_⟩; (try (rw [drewN_self wc]; generalize hq_ : World.drewN wc _ = wc; have m0 : Aside0 (wc.heap[ga]? = some (.cells #[.int .i64 a1_0, .int .i64 a1_1] 64 (0, 0))) := ⟨by rw [← hq_]; exact (by (with_reducible repeat first | refine bN_ ?_ _ | refine bD_ ?_ | refine bA_ ?_ _); exact Ba_.out)⟩; have m1 : Aside0 (wc.heap[gb]? = some (.cells #[.int .i64 a2_0, .int .i64 a2_1] 44 (0, 0))) := ⟨by rw [← hq_]; exact (by (with_reducible repeat first | refine bN_ ?_ _ | refine bD_ ?_ | refine bA_ ?_ _); exact Bb_.out)⟩; have m2 : Aside0 (wc.heap[gc]? = some (.cells #[.int .i64 0, .int .i64 0] 64 (0, 0))) := ⟨by rw [← hq_]; exact (by (with_reducible repeat first | refine bN_ ?_ _ | refine bD_ ?_ | refine bA_ ?_ _); exact Bc_.out)⟩; have m3 : Aside0 (wc.heap[gd]? = some (.cells #[.int .i64 0, .int .i64 0, .string (⟨#[]⟩ : ByteArray)] 46 (0, 0))) := ⟨by rw [← hq_]; exact (by (with_reducible repeat first | refine bN_ ?_ _ | refine bD_ ?_ | refine bA_ ?_ _); exact Bd_.out)⟩; have m4 : Aside0 (wc.heap[ge]? = some (.cells #[.int .i64 0, .int .i64 0, .string (⟨#[]⟩ : ByteArray)] 46 (0, 0))) := ⟨by rw [← hq_]; exact (by (with_reducible repeat first | refine bN_ ?_ _ | refine bD_ ?_ | refine bA_ ?_ _); exact Be_.out)⟩; have m5 : Aside0 (Below w.heap.size w wc) := ⟨by rw [← hq_]; exact (by repeat (first | (with_reducible first | exact HB.out | apply below_alloc | apply pw_below_drewN | apply below_drew1 | refine below_set ?_ GE112.out | refine below_set ?_ GE113.out | refine below_set ?_ GE114.out | refine below_set ?_ GE115.out | refine below_set ?_ GE116.out) | exact HB.out))⟩; clear Ba_ Bb_ Bc_ Bd_ Be_ HB hq_; have Ba_ := m0; have Bb_ := m1; have Bc_ := m2; have Bd_ := m3; have Be_ := m4; have HB := m5; clear m0 m1 m2 m3 m4 m5)); have hnb303 := Nea.out; have hnc303 := Nae.out; have hnb304 := Nec.out; have hnc304 := Nce.out; have hnb305 := Ned.out; have hnc305 := Nde.out; have hcz306_0 : wc.cell? ⟨ge, 0, none⟩ = some (.int .i64 0) := (blk_cell Be_.out 0).trans rfl; have hcz306_1 : wc.cell? ⟨ge, 1, none⟩ = some (.int .i64 0) := (blk_cell Be_.out 1).trans rfl; have hcz306_2 : wc.cell? ⟨ge, 2, none⟩ = some (.string (⟨#[]⟩ : ByteArray)) := (blk_cell Be_.out 2).trans rfl; have hfz306_0 := blk_frozen Be_.out 0; have hfz306_1 := blk_frozen Be_.out 1; have hfz306_2 := blk_frozen Be_.out 2))
                have m0 : Aside0 (((wc.setCell ⟨ge, 0, none⟩ (.int .i64 t120)).setCell ⟨ge, 1, none⟩ (.int .i64 t121)).heap[ga]? = some (.cells #[.int .i64 a1_0, .int .i64 a1_1] 64 (0, 0))) := ⟨by (with_reducible repeat first | refine bN_ ?_ _ | refine bD_ ?_ | refine bA_ ?_ _); refine blk_far ?_ Nae.out _; (with_reducible repeat first | refine bN_ ?_ _ | refine bD_ ?_ | refine bA_ ?_ _); refine blk_far ?_ Nae.out _; (with_reducible repeat first | refine bN_ ?_ _ | refine bD_ ?_ | refine bA_ ?_ _); exact Ba_.out⟩
                have m1 : Aside0 (((wc.setCell ⟨ge, 0, none⟩ (.int .i64 t120)).setCell ⟨ge, 1, none⟩ (.int .i64 t121)).heap[gb]? = some (.cells #[.int .i64 a2_0, .int .i64 a2_1] 44 (0, 0))) := ⟨by (with_reducible repeat first | refine bN_ ?_ _ | refine bD_ ?_ | refine bA_ ?_ _); refine blk_far ?_ Nbe.out _; (with_reducible repeat first | refine bN_ ?_ _ | refine bD_ ?_ | refine bA_ ?_ _); refine blk_far ?_ Nbe.out _; (with_reducible repeat first | refine bN_ ?_ _ | refine bD_ ?_ | refine bA_ ?_ _); exact Bb_.out⟩
                have m2 : Aside0 (((wc.setCell ⟨ge, 0, none⟩ (.int .i64 t120)).setCell ⟨ge, 1, none⟩ (.int .i64 t121)).heap[gc]? = some (.cells #[.int .i64 0, .int .i64 0] 64 (0, 0))) := ⟨by (with_reducible repeat first | refine bN_ ?_ _ | refine bD_ ?_ | refine bA_ ?_ _); refine blk_far ?_ Nce.out _; (with_reducible repeat first | refine bN_ ?_ _ | refine bD_ ?_ | refine bA_ ?_ _); refine blk_far ?_ Nce.out _; (with_reducible repeat first | refine bN_ ?_ _ | refine bD_ ?_ | refine bA_ ?_ _); exact Bc_.out⟩
                have m3 : Aside0 (((wc.setCell ⟨ge, 0, none⟩ (.int .i64 t120)).setCell ⟨ge, 1, none⟩ (.int .i64 t121)).heap[gd]? = some (.cells #[.int .i64 0, .int .i64 0, .string (⟨#[]⟩ : ByteArray)] 46 (0, 0))) := ⟨by (with_reducible repeat first | refine bN_ ?_ _ | refine bD_ ?_ | refine bA_ ?_ _); refine blk_far ?_ Nde.out _; (with_reducible repeat first | refine bN_ ?_ _ | refine bD_ ?_ | refine bA_ ?_ _); refine blk_far ?_ Nde.out _; (with_reducible repeat first | refine bN_ ?_ _ | refine bD_ ?_ | refine bA_ ?_ _); exact Bd_.out⟩
                have m4 : Aside0 (((wc.setCell ⟨ge, 0, none⟩ (.int .i64 t120)).setCell ⟨ge, 1, none⟩ (.int .i64 t121)).heap[ge]? = some (.cells #[.int .i64 t120, .int .i64 t121, .string (⟨#[]⟩ : ByteArray)] 46 (0, 0))) := ⟨by (with_reducible repeat first | refine bN_ ?_ _ | refine bD_ ?_ | refine bA_ ?_ _); refine blk_put (cs := #[.int .i64 t120, .int .i64 0, .string (⟨#[]⟩ : ByteArray)]) ?_ 1 _ rfl; (with_reducible repeat first | refine bN_ ?_ _ | refine bD_ ?_ | refine bA_ ?_ _); refine blk_put (cs := #[.int .i64 0, .int .i64 0, .string (⟨#[]⟩ : ByteArray)]) ?_ 0 _ rfl; (with_reducible repeat first | refine bN_ ?_ _ | refine bD_ ?_ | refine bA_ ?_ _); exact Be_.out⟩
                have m5 : Aside0 (Below w.heap.size w ((wc.setCell ⟨ge, 0, none⟩ (.int .i64 t120)).setCell ⟨ge, 1, none⟩ (.int .i64 t121))) := ⟨by repeat (first | (with_reducible first | exact HB.out | apply below_alloc | apply pw_below_drewN | apply below_drew1 | refine below_set ?_ GE112.out | refine below_set ?_ GE113.out | refine below_set ?_ GE114.out | refine below_set ?_ GE115.out | refine below_set ?_ GE116.out) | exact HB.out)⟩
                (try clear Ba_)
                (try clear Bb_)
                (try clear Bc_)
                (try clear Bd_)
                (try clear Be_)
                (try clear HB)
                generalize ((wc.setCell ⟨ge, 0, none⟩ (.int .i64 t120)).setCell ⟨ge, 1, none⟩ (.int .i64 t121)) = w307 at m0 m1 m2 m3 m4 m5 ⊢
                have Ba_ := m0
                have Bb_ := m1
                have Bc_ := m2
                have Bd_ := m3
                have Be_ := m4
                have HB := m5
                clear m0 m1 m2 m3 m4 m5
                have m0 := Aside0.mk (blk_drew Ba_.out)
                have m1 := Aside0.mk (blk_drew Bb_.out)
                have m2 := Aside0.mk (blk_drew Bc_.out)
                have m3 := Aside0.mk (blk_drew Bd_.out)
                have m4 := Aside0.mk (blk_drew Be_.out)
                have m5 := Aside0.mk (below_drew1 HB.out)
                clear Ba_
                clear Bb_
                clear Bc_
                clear Bd_
                clear Be_
                clear HB
                have Ba_ := m0
                have Bb_ := m1
                have Bc_ := m2
                have Bd_ := m3
                have Be_ := m4
                have HB := m5
                clear m0 m1 m2 m3 m4 m5
                refine start_ (n := 7) (S := fun w' => w'.cell? ⟨ga, 0, none⟩ = some (.int .i64 a1_0) ∧ w'.cell? ⟨ga, 1, none⟩ = some (.int .i64 a1_1) ∧ w'.cell? ⟨ge, 0, none⟩ = some (.int .i64 t120) ∧ w'.cell? ⟨ge, 1, none⟩ = some (.int .i64 t121) ∧ w'.cell? ⟨ge, 2, none⟩ = some (.string (⟨#[]⟩ : ByteArray))) (ds := []) #[false, false, false, false, false, false, false] (by kernel_rfl) rfl rfl ⟨(blk_cell Ba_.out 0).trans rfl, (blk_cell Ba_.out 1).trans rfl, (blk_cell Be_.out 0).trans rfl, (blk_cell Be_.out 1).trans rfl, (blk_cell Be_.out 2).trans rfl⟩ (fun hH => ?_)
                generalize w307.drew = w308 at Ba_ Bb_ Bc_ Bd_ Be_ HB hH ⊢
                refine pure_ (i := 2) (N := some 168) (v := ?_) (a' := ?_) #[false, false, true, false, false, false, false] rfl rfl (by kernel_rfl) (fun _ _ _ h => h) (Or.inl ⟨by rfl, ?_⟩) ?_ ?_
                rotate_left
                ·
                 intro w'
                 go_simp
                 with_reducible rfl
                rotate_left
                ·
                 simp only [Act.put, List.setIfInBounds_toArray, List.set_cons_zero, List.set_cons_succ, i64_w, i32_w]
                 rfl
                refine pure_ (i := 3) (N := some 169) (v := ?_) (a' := ?_) #[false, false, true, true, false, false, false] rfl rfl (by kernel_rfl) (fun _ _ _ h => h) (Or.inl ⟨by rfl, ?_⟩) ?_ ?_
                rotate_left
                ·
                 intro w'
                 go_simp
                 with_reducible rfl
                rotate_left
                ·
                 simp only [Act.put, List.setIfInBounds_toArray, List.set_cons_zero, List.set_cons_succ, i64_w, i32_w]
                 rfl
                refine take_ (i := 0) (N := some 166) (v := ?_) (a' := ?_) #[true, false, true, true, false, false, false] rfl rfl (by kernel_rfl) (fun _ _ _ h => h) (Or.inl ⟨by rfl, ?_⟩) hH ?_ ?_
                rotate_left
                ·
                 rintro w' ⟨s0, s1, s2, s3, s4⟩
                 go_simp
                 with_reducible rfl
                rotate_left
                ·
                 simp only [Act.put, List.setIfInBounds_toArray, List.set_cons_zero, List.set_cons_succ, i64_w, i32_w]
                 rfl
                refine take_ (i := 1) (N := some 167) (v := ?_) (a' := ?_) #[true, true, true, true, false, false, false] rfl rfl (by kernel_rfl) (fun _ _ _ h => h) (Or.inl ⟨by rfl, ?_⟩) hH ?_ ?_
                rotate_left
                ·
                 rintro w' ⟨s0, s1, s2, s3, s4⟩
                 go_simp
                 with_reducible rfl
                rotate_left
                ·
                 simp only [Act.put, List.setIfInBounds_toArray, List.set_cons_zero, List.set_cons_succ, i64_w, i32_w]
                 rfl
                refine one_ (i := 4) (N := none) #[true, true, true, true, true, false, false] rfl rfl (by kernel_rfl) (by decide) (fun K hK => ?_)
                have hs309 : w308.cell? ⟨gc, 0, none⟩ = some (.int .i64 0) := (blk_cell Bc_.out 0).trans rfl
                have hfs309 := blk_frozen Bc_.out 0
                have hns309_0 := Nac.out
                have hns309_1 := Nbc.out
                have hns309_3 := Ndc.out
                have hns309_4 := Nec.out
                have hms309_0 := Nca.out
                have hms309_1 := Ncb.out
                have hms309_3 := Ncd.out
                have hms309_4 := Nce.out
                have hs310 : w308.cell? ⟨gc, 1, none⟩ = some (.int .i64 0) := (blk_cell Bc_.out 1).trans rfl
                have hfs310 := blk_frozen Bc_.out 1
                have hns310_0 := Nac.out
                have hns310_1 := Nbc.out
                have hns310_3 := Ndc.out
                have hns310_4 := Nec.out
                have hms310_0 := Nca.out
                have hms310_1 := Ncb.out
                have hms310_3 := Ncd.out
                have hms310_4 := Nce.out
                refine skip_ (w1 := ?_) (by rfl) rfl ?_ ?_
                rotate_left
                ·
                 go_simp
                 rfl
                refine hK.out _ _ ⟨((cf_ Nac.out _).trans (((cf_ Nac.out _).trans (hH.1)))), ((cf_ Nac.out _).trans (((cf_ Nac.out _).trans (hH.2.1)))), ((cf_ Nec.out _).trans (((cf_ Nec.out _).trans (hH.2.2.1)))), ((cf_ Nec.out _).trans (((cf_ Nec.out _).trans (hH.2.2.2.1)))), ((cf_ Nec.out _).trans (((cf_ Nec.out _).trans (hH.2.2.2.2))))⟩ (fun hH => ?_)
                clear hK K
                refine one_ (i := 5) (N := none) #[true, true, true, true, true, true, false] rfl rfl (by kernel_rfl) (by decide) (fun K hK => ?_)
                have hs311 : w308.cell? ⟨gd, 0, none⟩ = some (.int .i64 0) := (blk_cell Bd_.out 0).trans rfl
                have hfs311 := blk_frozen Bd_.out 0
                have hns311_0 := Nad.out
                have hns311_1 := Nbd.out
                have hns311_2 := Ncd.out
                have hns311_4 := Ned.out
                have hms311_0 := Nda.out
                have hms311_1 := Ndb.out
                have hms311_2 := Ndc.out
                have hms311_4 := Nde.out
                have hs312 : w308.cell? ⟨gd, 1, none⟩ = some (.int .i64 0) := (blk_cell Bd_.out 1).trans rfl
                have hfs312 := blk_frozen Bd_.out 1
                have hns312_0 := Nad.out
                have hns312_1 := Nbd.out
                have hns312_2 := Ncd.out
                have hns312_4 := Ned.out
                have hms312_0 := Nda.out
                have hms312_1 := Ndb.out
                have hms312_2 := Ndc.out
                have hms312_4 := Nde.out
                have hs313 : w308.cell? ⟨gd, 2, none⟩ = some (.string (⟨#[]⟩ : ByteArray)) := (blk_cell Bd_.out 2).trans rfl
                have hfs313 := blk_frozen Bd_.out 2
                have hns313_0 := Nad.out
                have hns313_1 := Nbd.out
                have hns313_2 := Ncd.out
                have hns313_4 := Ned.out
                have hms313_0 := Nda.out
                have hms313_1 := Ndb.out
                have hms313_2 := Ndc.out
                have hms313_4 := Nde.out
                refine skip_ (w1 := ?_) (by rfl) rfl ?_ ?_
                rotate_left
                ·
                 go_simp
                 rfl
                refine hK.out _ _ ⟨((cf_ Nad.out _).trans (((cf_ Nad.out _).trans (((cf_ Nad.out _).trans (hH.1)))))), ((cf_ Nad.out _).trans (((cf_ Nad.out _).trans (((cf_ Nad.out _).trans (hH.2.1)))))), ((cf_ Ned.out _).trans (((cf_ Ned.out _).trans (((cf_ Ned.out _).trans (hH.2.2.1)))))), ((cf_ Ned.out _).trans (((cf_ Ned.out _).trans (((cf_ Ned.out _).trans (hH.2.2.2.1)))))), ((cf_ Ned.out _).trans (((cf_ Ned.out _).trans (((cf_ Ned.out _).trans (hH.2.2.2.2))))))⟩ (fun hH => ?_)
                clear hK K
                refine pure_ (i := 6) (N := some 8) (v := ?_) (a' := ?_) #[true, true, true, true, true, true, true] rfl rfl (by kernel_rfl) (fun _ _ _ h => h) (Or.inl ⟨by rfl, ?_⟩) ?_ ?_
                rotate_left
                ·
                 intro w'
                 go_simp
                 with_reducible rfl
                rotate_left
                ·
                 simp only [Act.put, List.setIfInBounds_toArray, List.set_cons_zero, List.set_cons_succ, i64_w, i32_w]
                 rfl
                refine done_ (by kernel_rfl) ?_
                try go_wp2
                refine bodyPost_ret (results_list (rs := [.cell 6 64, .cell 7 46, .tmp 8]) rfl (by simp) (.cell gc 64 #[.int .i64 a1_0, .int .i64 a1_1] (0, 0) _ rfl (by (with_reducible repeat first | refine bN_ ?_ _ | refine bD_ ?_ | refine bA_ ?_ _); refine blk_far ?_ Ncd.out _; (with_reducible repeat first | refine bN_ ?_ _ | refine bD_ ?_ | refine bA_ ?_ _); refine blk_far ?_ Ncd.out _; (with_reducible repeat first | refine bN_ ?_ _ | refine bD_ ?_ | refine bA_ ?_ _); refine blk_far ?_ Ncd.out _; (with_reducible repeat first | refine bN_ ?_ _ | refine bD_ ?_ | refine bA_ ?_ _); refine blk_put (cs := #[.int .i64 a1_0, .int .i64 0]) ?_ 1 _ rfl; (with_reducible repeat first | refine bN_ ?_ _ | refine bD_ ?_ | refine bA_ ?_ _); refine blk_put (cs := #[.int .i64 0, .int .i64 0]) ?_ 0 _ rfl; (with_reducible repeat first | refine bN_ ?_ _ | refine bD_ ?_ | refine bA_ ?_ _); exact Bc_.out) Tryd.underlying64 rfl (by kernel_rfl) (.cell gd 46 #[.int .i64 t120, .int .i64 t121, .string (⟨#[]⟩ : ByteArray)] (0, 0) _ rfl (by (with_reducible repeat first | refine bN_ ?_ _ | refine bD_ ?_ | refine bA_ ?_ _); refine blk_put (cs := #[.int .i64 t120, .int .i64 t121, .string (⟨#[]⟩ : ByteArray)]) ?_ 2 _ rfl; (with_reducible repeat first | refine bN_ ?_ _ | refine bD_ ?_ | refine bA_ ?_ _); refine blk_put (cs := #[.int .i64 t120, .int .i64 0, .string (⟨#[]⟩ : ByteArray)]) ?_ 1 _ rfl; (with_reducible repeat first | refine bN_ ?_ _ | refine bD_ ?_ | refine bA_ ?_ _); refine blk_put (cs := #[.int .i64 0, .int .i64 0, .string (⟨#[]⟩ : ByteArray)]) ?_ 0 _ rfl; (with_reducible repeat first | refine bN_ ?_ _ | refine bD_ ?_ | refine bA_ ?_ _); refine blk_far ?_ Ndc.out _; (with_reducible repeat first | refine bN_ ?_ _ | refine bD_ ?_ | refine bA_ ?_ _); refine blk_far ?_ Ndc.out _; (with_reducible repeat first | refine bN_ ?_ _ | refine bD_ ?_ | refine bA_ ?_ _); exact Bd_.out) Tryd.underlying46 rfl (by kernel_rfl) (.tmp .nil)))) rfl ?_
                exact ⟨by first | rfl | (simp [errW_none, errW_some] <;> rfl), by repeat (first | (with_reducible first | exact HB.out | apply below_alloc | apply pw_below_drewN | apply below_drew1 | refine below_set ?_ GE112.out | refine below_set ?_ GE113.out | refine below_set ?_ GE114.out | refine below_set ?_ GE115.out | refine below_set ?_ GE116.out) | exact HB.out)⟩
               ·
                replace c296 := Bool.eq_false_iff.mpr c296
                subst c296
                have H1 : (some (a1_0, a1_1, 0, 0, (⟨#[]⟩ : ByteArray), false)) = some (r1, r2, r3, r4, r5, r6) := by rw [if_neg (show ¬ (false = true) by decide)] at H; exact H
                clear H
                have H := H1
                clear H1
                simp only [Option.some.injEq, Prod.mk.injEq] at H
                obtain ⟨rfl, rfl, rfl, rfl, rfl, rfl⟩ := H
                have hnb314 := Nba.out
                have hnc314 := Nab.out
                have hnb315 := Nbc.out
                have hnc315 := Ncb.out
                have hnb316 := Nbd.out
                have hnc316 := Ndb.out
                have hnb317 := Nbe.out
                have hnc317 := Neb.out
                have hcz318_0 : wc.cell? ⟨gb, 0, none⟩ = some (.int .i64 a2_0) := (blk_cell Bb_.out 0).trans rfl
                have hcz318_1 : wc.cell? ⟨gb, 1, none⟩ = some (.int .i64 a2_1) := (blk_cell Bb_.out 1).trans rfl
                have hfz318_0 := blk_frozen Bb_.out 0
                have hfz318_1 := blk_frozen Bb_.out 1
                try go_wp2
                have m0 := Aside0.mk (blk_drew Ba_.out)
                have m1 := Aside0.mk (blk_drew Bb_.out)
                have m2 := Aside0.mk (blk_drew Bc_.out)
                have m3 := Aside0.mk (blk_drew Bd_.out)
                have m4 := Aside0.mk (blk_drew Be_.out)
                have m5 := Aside0.mk (below_drew1 HB.out)
                clear Ba_
                clear Bb_
                clear Bc_
                clear Bd_
                clear Be_
                clear HB
                have Ba_ := m0
                have Bb_ := m1
                have Bc_ := m2
                have Bd_ := m3
                have Be_ := m4
                have HB := m5
                clear m0 m1 m2 m3 m4 m5
                refine start_ (n := 5) (S := fun w' => w'.cell? ⟨ga, 0, none⟩ = some (.int .i64 a1_0) ∧ w'.cell? ⟨ga, 1, none⟩ = some (.int .i64 a1_1) ∧ w'.cell? ⟨ge, 0, none⟩ = some (.int .i64 0) ∧ w'.cell? ⟨ge, 1, none⟩ = some (.int .i64 0) ∧ w'.cell? ⟨ge, 2, none⟩ = some (.string (⟨#[]⟩ : ByteArray))) (ds := []) #[false, false, false, false, false] (by kernel_rfl) rfl rfl ⟨(blk_cell Ba_.out 0).trans rfl, (blk_cell Ba_.out 1).trans rfl, (blk_cell Be_.out 0).trans rfl, (blk_cell Be_.out 1).trans rfl, (blk_cell Be_.out 2).trans rfl⟩ (fun hH => ?_)
                generalize wc.drew = w319 at Ba_ Bb_ Bc_ Bd_ Be_ HB hH ⊢
                refine take_ (i := 0) (N := some 154) (v := ?_) (a' := ?_) #[true, false, false, false, false] rfl rfl (by kernel_rfl) (fun _ _ _ h => h) (Or.inl ⟨by rfl, ?_⟩) hH ?_ ?_
                rotate_left
                ·
                 rintro w' ⟨s0, s1, s2, s3, s4⟩
                 go_simp
                 with_reducible rfl
                rotate_left
                ·
                 simp only [Act.put, List.setIfInBounds_toArray, List.set_cons_zero, List.set_cons_succ, i64_w, i32_w]
                 rfl
                refine take_ (i := 1) (N := some 155) (v := ?_) (a' := ?_) #[true, true, false, false, false] rfl rfl (by kernel_rfl) (fun _ _ _ h => h) (Or.inl ⟨by rfl, ?_⟩) hH ?_ ?_
                rotate_left
                ·
                 rintro w' ⟨s0, s1, s2, s3, s4⟩
                 go_simp
                 with_reducible rfl
                rotate_left
                ·
                 simp only [Act.put, List.setIfInBounds_toArray, List.set_cons_zero, List.set_cons_succ, i64_w, i32_w]
                 rfl
                refine one_ (i := 2) (N := none) #[true, true, true, false, false] rfl rfl (by kernel_rfl) (by decide) (fun K hK => ?_)
                have hs320 : w319.cell? ⟨gc, 0, none⟩ = some (.int .i64 0) := (blk_cell Bc_.out 0).trans rfl
                have hfs320 := blk_frozen Bc_.out 0
                have hns320_0 := Nac.out
                have hns320_1 := Nbc.out
                have hns320_3 := Ndc.out
                have hns320_4 := Nec.out
                have hms320_0 := Nca.out
                have hms320_1 := Ncb.out
                have hms320_3 := Ncd.out
                have hms320_4 := Nce.out
                have hs321 : w319.cell? ⟨gc, 1, none⟩ = some (.int .i64 0) := (blk_cell Bc_.out 1).trans rfl
                have hfs321 := blk_frozen Bc_.out 1
                have hns321_0 := Nac.out
                have hns321_1 := Nbc.out
                have hns321_3 := Ndc.out
                have hns321_4 := Nec.out
                have hms321_0 := Nca.out
                have hms321_1 := Ncb.out
                have hms321_3 := Ncd.out
                have hms321_4 := Nce.out
                refine skip_ (w1 := ?_) (by rfl) rfl ?_ ?_
                rotate_left
                ·
                 go_simp
                 rfl
                refine hK.out _ _ ⟨((cf_ Nac.out _).trans (((cf_ Nac.out _).trans (hH.1)))), ((cf_ Nac.out _).trans (((cf_ Nac.out _).trans (hH.2.1)))), ((cf_ Nec.out _).trans (((cf_ Nec.out _).trans (hH.2.2.1)))), ((cf_ Nec.out _).trans (((cf_ Nec.out _).trans (hH.2.2.2.1)))), ((cf_ Nec.out _).trans (((cf_ Nec.out _).trans (hH.2.2.2.2))))⟩ (fun hH => ?_)
                clear hK K
                refine one_ (i := 3) (N := none) #[true, true, true, true, false] rfl rfl (by kernel_rfl) (by decide) (fun K hK => ?_)
                have hs322 : w319.cell? ⟨gd, 0, none⟩ = some (.int .i64 0) := (blk_cell Bd_.out 0).trans rfl
                have hfs322 := blk_frozen Bd_.out 0
                have hns322_0 := Nad.out
                have hns322_1 := Nbd.out
                have hns322_2 := Ncd.out
                have hns322_4 := Ned.out
                have hms322_0 := Nda.out
                have hms322_1 := Ndb.out
                have hms322_2 := Ndc.out
                have hms322_4 := Nde.out
                have hs323 : w319.cell? ⟨gd, 1, none⟩ = some (.int .i64 0) := (blk_cell Bd_.out 1).trans rfl
                have hfs323 := blk_frozen Bd_.out 1
                have hns323_0 := Nad.out
                have hns323_1 := Nbd.out
                have hns323_2 := Ncd.out
                have hns323_4 := Ned.out
                have hms323_0 := Nda.out
                have hms323_1 := Ndb.out
                have hms323_2 := Ndc.out
                have hms323_4 := Nde.out
                have hs324 : w319.cell? ⟨gd, 2, none⟩ = some (.string (⟨#[]⟩ : ByteArray)) := (blk_cell Bd_.out 2).trans rfl
                have hfs324 := blk_frozen Bd_.out 2
                have hns324_0 := Nad.out
                have hns324_1 := Nbd.out
                have hns324_2 := Ncd.out
                have hns324_4 := Ned.out
                have hms324_0 := Nda.out
                have hms324_1 := Ndb.out
                have hms324_2 := Ndc.out
                have hms324_4 := Nde.out
                refine skip_ (w1 := ?_) (by rfl) rfl ?_ ?_
                rotate_left
                ·
                 go_simp
                 rfl
                refine hK.out _ _ ⟨((cf_ Nad.out _).trans (((cf_ Nad.out _).trans (((cf_ Nad.out _).trans (hH.1)))))), ((cf_ Nad.out _).trans (((cf_ Nad.out _).trans (((cf_ Nad.out _).trans (hH.2.1)))))), ((cf_ Ned.out _).trans (((cf_ Ned.out _).trans (((cf_ Ned.out _).trans (hH.2.2.1)))))), ((cf_ Ned.out _).trans (((cf_ Ned.out _).trans (((cf_ Ned.out _).trans (hH.2.2.2.1)))))), ((cf_ Ned.out _).trans (((cf_ Ned.out _).trans (((cf_ Ned.out _).trans (hH.2.2.2.2))))))⟩ (fun hH => ?_)
                clear hK K
                refine pure_ (i := 4) (N := some 8) (v := ?_) (a' := ?_) #[true, true, true, true, true] rfl rfl (by kernel_rfl) (fun _ _ _ h => h) (Or.inl ⟨by rfl, ?_⟩) ?_ ?_
                rotate_left
                ·
                 intro w'
                 go_simp
                 with_reducible rfl
                rotate_left
                ·
                 simp only [Act.put, List.setIfInBounds_toArray, List.set_cons_zero, List.set_cons_succ, i64_w, i32_w]
                 rfl
                refine done_ (by kernel_rfl) ?_
                try go_wp2
                refine bodyPost_ret (results_list (rs := [.cell 6 64, .cell 7 46, .tmp 8]) rfl (by simp) (.cell gc 64 #[.int .i64 a1_0, .int .i64 a1_1] (0, 0) _ rfl (by (with_reducible repeat first | refine bN_ ?_ _ | refine bD_ ?_ | refine bA_ ?_ _); refine blk_far ?_ Ncd.out _; (with_reducible repeat first | refine bN_ ?_ _ | refine bD_ ?_ | refine bA_ ?_ _); refine blk_far ?_ Ncd.out _; (with_reducible repeat first | refine bN_ ?_ _ | refine bD_ ?_ | refine bA_ ?_ _); refine blk_far ?_ Ncd.out _; (with_reducible repeat first | refine bN_ ?_ _ | refine bD_ ?_ | refine bA_ ?_ _); refine blk_put (cs := #[.int .i64 a1_0, .int .i64 0]) ?_ 1 _ rfl; (with_reducible repeat first | refine bN_ ?_ _ | refine bD_ ?_ | refine bA_ ?_ _); refine blk_put (cs := #[.int .i64 0, .int .i64 0]) ?_ 0 _ rfl; (with_reducible repeat first | refine bN_ ?_ _ | refine bD_ ?_ | refine bA_ ?_ _); exact Bc_.out) Tryd.underlying64 rfl (by kernel_rfl) (.cell gd 46 #[.int .i64 0, .int .i64 0, .string (⟨#[]⟩ : ByteArray)] (0, 0) _ rfl (by (with_reducible repeat first | refine bN_ ?_ _ | refine bD_ ?_ | refine bA_ ?_ _); refine blk_put (cs := #[.int .i64 0, .int .i64 0, .string (⟨#[]⟩ : ByteArray)]) ?_ 2 _ rfl; (with_reducible repeat first | refine bN_ ?_ _ | refine bD_ ?_ | refine bA_ ?_ _); refine blk_put (cs := #[.int .i64 0, .int .i64 0, .string (⟨#[]⟩ : ByteArray)]) ?_ 1 _ rfl; (with_reducible repeat first | refine bN_ ?_ _ | refine bD_ ?_ | refine bA_ ?_ _); refine blk_put (cs := #[.int .i64 0, .int .i64 0, .string (⟨#[]⟩ : ByteArray)]) ?_ 0 _ rfl; (with_reducible repeat first | refine bN_ ?_ _ | refine bD_ ?_ | refine bA_ ?_ _); refine blk_far ?_ Ndc.out _; (with_reducible repeat first | refine bN_ ?_ _ | refine bD_ ?_ | refine bA_ ?_ _); refine blk_far ?_ Ndc.out _; (with_reducible repeat first | refine bN_ ?_ _ | refine bD_ ?_ | refine bA_ ?_ _); exact Bd_.out) Tryd.underlying46 rfl (by kernel_rfl) (.tmp .nil)))) rfl ?_
                exact ⟨by first | rfl | (simp [errW_none, errW_some] <;> rfl), by repeat (first | (with_reducible first | exact HB.out | apply below_alloc | apply pw_below_drewN | apply below_drew1 | refine below_set ?_ GE112.out | refine below_set ?_ GE113.out | refine below_set ?_ GE114.out | refine below_set ?_ GE115.out | refine below_set ?_ GE116.out) | exact HB.out)⟩
              ·
               rw [if_neg c295] at H
               have c295b0 : (a2_0 == 9) = false := beq_eq_false_iff_ne.mpr c295
               have c295b1 : (a2_0 != 9) = true := bne_iff_ne.mpr c295
               by_cases c325 : a2_0 = 10
               ·
                rw [if_pos c325] at H
                have c325b0 : (a2_0 == 10) = true := beq_iff_eq.mpr c325
                have c325b1 : (a2_0 != 10) = false := bne_eq_false_iff_eq.mpr c325
                clear c325
                replace H := Option.bind_eq_some_iff.mp H
                obtain ⟨⟨t122, t123⟩, A3260, H⟩ := H
                replace H : (some (a1_0, wrap64 (a1_1 + t123), 0, 0, (⟨#[]⟩ : ByteArray), decide (t122 > 0))) = some (r1, r2, r3, r4, r5, r6) := H
                have A326 := Aside0.mk A3260
                clear A3260
                simp only [Option.some.injEq, Prod.mk.injEq] at H
                obtain ⟨rfl, rfl, rfl, rfl, rfl, rfl⟩ := H
                have hnb327 := Nba.out
                have hnc327 := Nab.out
                have hnb328 := Nbc.out
                have hnc328 := Ncb.out
                have hnb329 := Nbd.out
                have hnc329 := Ndb.out
                have hnb330 := Nbe.out
                have hnc330 := Neb.out
                have hcz331_0 : wc.cell? ⟨gb, 0, none⟩ = some (.int .i64 a2_0) := (blk_cell Bb_.out 0).trans rfl
                have hcz331_1 : wc.cell? ⟨gb, 1, none⟩ = some (.int .i64 a2_1) := (blk_cell Bb_.out 1).trans rfl
                have hfz331_0 := blk_frozen Bb_.out 0
                have hfz331_1 := blk_frozen Bb_.out 1
                have hnb332 := Nac.out
                have hnc332 := Nca.out
                have hnb333 := Nad.out
                have hnc333 := Nda.out
                have hnb334 := Nae.out
                have hnc334 := Nea.out
                have hcz335_0 : wc.cell? ⟨ga, 0, none⟩ = some (.int .i64 a1_0) := (blk_cell Ba_.out 0).trans rfl
                have hcz335_1 : wc.cell? ⟨ga, 1, none⟩ = some (.int .i64 a1_1) := (blk_cell Ba_.out 1).trans rfl
                have hfz335_0 := blk_frozen Ba_.out 0
                have hfz335_1 := blk_frozen Ba_.out 1
                try go_wp2_with (first | ((with_reducible refine gate_callee (f := 67) rfl ?_); refine goesL_ (some 176) rfl rfl Tryd.func67 (by kernel_rfl) rfl #[.slice A0 l0.length c0, .int .i64 a1_1] rfl (by first | rfl | (simp only [List.map_toArray, List.map_cons, List.map_nil]; try rfl)) ?_; (with_reducible refine (spec_RuneAt.calls kj3 _ _ l0 a1_1 t122 t123 _ ?side1 ?side2 A326.out).mono ?_); (case side1 => repeat (first | exact (Kd.C_below HR0.out HB.out) | (with_reducible refine Kd.C_alloc ?_ _) | (with_reducible refine Kd.C_drewN ?_ _) | (with_reducible refine Kd.C_drew ?_))); (case side2 => exact HC0.out); rintro e w' ⟨rfl, ⟨nd, rfl⟩⟩; refine ⟨_, rfl, ?_⟩; (try (rw [drewN_self wc]; generalize hq_ : World.drewN wc _ = wc; have m0 : Aside0 (wc.heap[ga]? = some (.cells #[.int .i64 a1_0, .int .i64 a1_1] 64 (0, 0))) := ⟨by rw [← hq_]; exact (by (with_reducible repeat first | refine bN_ ?_ _ | refine bD_ ?_ | refine bA_ ?_ _); exact Ba_.out)⟩; have m1 : Aside0 (wc.heap[gb]? = some (.cells #[.int .i64 a2_0, .int .i64 a2_1] 44 (0, 0))) := ⟨by rw [← hq_]; exact (by (with_reducible repeat first | refine bN_ ?_ _ | refine bD_ ?_ | refine bA_ ?_ _); exact Bb_.out)⟩; have m2 : Aside0 (wc.heap[gc]? = some (.cells #[.int .i64 0, .int .i64 0] 64 (0, 0))) := ⟨by rw [← hq_]; exact (by (with_reducible repeat first | refine bN_ ?_ _ | refine bD_ ?_ | refine bA_ ?_ _); exact Bc_.out)⟩; have m3 : Aside0 (wc.heap[gd]? = some (.cells #[.int .i64 0, .int .i64 0, .string (⟨#[]⟩ : ByteArray)] 46 (0, 0))) := ⟨by rw [← hq_]; exact (by (with_reducible repeat first | refine bN_ ?_ _ | refine bD_ ?_ | refine bA_ ?_ _); exact Bd_.out)⟩; have m4 : Aside0 (wc.heap[ge]? = some (.cells #[.int .i64 0, .int .i64 0, .string (⟨#[]⟩ : ByteArray)] 46 (0, 0))) := ⟨by rw [← hq_]; exact (by (with_reducible repeat first | refine bN_ ?_ _ | refine bD_ ?_ | refine bA_ ?_ _); exact Be_.out)⟩; have m5 : Aside0 (Below w.heap.size w wc) := ⟨by rw [← hq_]; exact (by repeat (first | (with_reducible first | exact HB.out | apply below_alloc | apply pw_below_drewN | apply below_drew1 | refine below_set ?_ GE112.out | refine below_set ?_ GE113.out | refine below_set ?_ GE114.out | refine below_set ?_ GE115.out | refine below_set ?_ GE116.out) | exact HB.out))⟩; clear Ba_ Bb_ Bc_ Bd_ Be_ HB hq_; have Ba_ := m0; have Bb_ := m1; have Bc_ := m2; have Bd_ := m3; have Be_ := m4; have HB := m5; clear m0 m1 m2 m3 m4 m5; have hcz331_0 : wc.cell? ⟨gb, 0, none⟩ = some (.int .i64 a2_0) := (blk_cell Bb_.out 0).trans rfl; have hcz331_1 : wc.cell? ⟨gb, 1, none⟩ = some (.int .i64 a2_1) := (blk_cell Bb_.out 1).trans rfl; have hfz331_0 := blk_frozen Bb_.out 0; have hfz331_1 := blk_frozen Bb_.out 1; have hcz335_0 : wc.cell? ⟨ga, 0, none⟩ = some (.int .i64 a1_0) := (blk_cell Ba_.out 0).trans rfl; have hcz335_1 : wc.cell? ⟨ga, 1, none⟩ = some (.int .i64 a1_1) := (blk_cell Ba_.out 1).trans rfl; have hfz335_0 := blk_frozen Ba_.out 0; have hfz335_1 := blk_frozen Ba_.out 1))))
                have m0 : Aside0 ((wc.setCell ⟨ga, 1, none⟩ (.int .i64 (wrap64 (a1_1 + t123)))).heap[ga]? = some (.cells #[.int .i64 a1_0, .int .i64 (wrap64 (a1_1 + t123))] 64 (0, 0))) := ⟨by (with_reducible repeat first | refine bN_ ?_ _ | refine bD_ ?_ | refine bA_ ?_ _); refine blk_put (cs := #[.int .i64 a1_0, .int .i64 a1_1]) ?_ 1 _ rfl; (with_reducible repeat first | refine bN_ ?_ _ | refine bD_ ?_ | refine bA_ ?_ _); exact Ba_.out⟩
                have m1 : Aside0 ((wc.setCell ⟨ga, 1, none⟩ (.int .i64 (wrap64 (a1_1 + t123)))).heap[gb]? = some (.cells #[.int .i64 a2_0, .int .i64 a2_1] 44 (0, 0))) := ⟨by (with_reducible repeat first | refine bN_ ?_ _ | refine bD_ ?_ | refine bA_ ?_ _); refine blk_far ?_ Nba.out _; (with_reducible repeat first | refine bN_ ?_ _ | refine bD_ ?_ | refine bA_ ?_ _); exact Bb_.out⟩
                have m2 : Aside0 ((wc.setCell ⟨ga, 1, none⟩ (.int .i64 (wrap64 (a1_1 + t123)))).heap[gc]? = some (.cells #[.int .i64 0, .int .i64 0] 64 (0, 0))) := ⟨by (with_reducible repeat first | refine bN_ ?_ _ | refine bD_ ?_ | refine bA_ ?_ _); refine blk_far ?_ Nca.out _; (with_reducible repeat first | refine bN_ ?_ _ | refine bD_ ?_ | refine bA_ ?_ _); exact Bc_.out⟩
                have m3 : Aside0 ((wc.setCell ⟨ga, 1, none⟩ (.int .i64 (wrap64 (a1_1 + t123)))).heap[gd]? = some (.cells #[.int .i64 0, .int .i64 0, .string (⟨#[]⟩ : ByteArray)] 46 (0, 0))) := ⟨by (with_reducible repeat first | refine bN_ ?_ _ | refine bD_ ?_ | refine bA_ ?_ _); refine blk_far ?_ Nda.out _; (with_reducible repeat first | refine bN_ ?_ _ | refine bD_ ?_ | refine bA_ ?_ _); exact Bd_.out⟩
                have m4 : Aside0 ((wc.setCell ⟨ga, 1, none⟩ (.int .i64 (wrap64 (a1_1 + t123)))).heap[ge]? = some (.cells #[.int .i64 0, .int .i64 0, .string (⟨#[]⟩ : ByteArray)] 46 (0, 0))) := ⟨by (with_reducible repeat first | refine bN_ ?_ _ | refine bD_ ?_ | refine bA_ ?_ _); refine blk_far ?_ Nea.out _; (with_reducible repeat first | refine bN_ ?_ _ | refine bD_ ?_ | refine bA_ ?_ _); exact Be_.out⟩
                have m5 : Aside0 (Below w.heap.size w (wc.setCell ⟨ga, 1, none⟩ (.int .i64 (wrap64 (a1_1 + t123))))) := ⟨by repeat (first | (with_reducible first | exact HB.out | apply below_alloc | apply pw_below_drewN | apply below_drew1 | refine below_set ?_ GE112.out | refine below_set ?_ GE113.out | refine below_set ?_ GE114.out | refine below_set ?_ GE115.out | refine below_set ?_ GE116.out) | exact HB.out)⟩
                (try clear Ba_)
                (try clear Bb_)
                (try clear Bc_)
                (try clear Bd_)
                (try clear Be_)
                (try clear HB)
                generalize (wc.setCell ⟨ga, 1, none⟩ (.int .i64 (wrap64 (a1_1 + t123)))) = w336 at m0 m1 m2 m3 m4 m5 ⊢
                have Ba_ := m0
                have Bb_ := m1
                have Bc_ := m2
                have Bd_ := m3
                have Be_ := m4
                have HB := m5
                clear m0 m1 m2 m3 m4 m5
                have m0 := Aside0.mk (blk_drew Ba_.out)
                have m1 := Aside0.mk (blk_drew Bb_.out)
                have m2 := Aside0.mk (blk_drew Bc_.out)
                have m3 := Aside0.mk (blk_drew Bd_.out)
                have m4 := Aside0.mk (blk_drew Be_.out)
                have m5 := Aside0.mk (below_drew1 HB.out)
                clear Ba_
                clear Bb_
                clear Bc_
                clear Bd_
                clear Be_
                clear HB
                have Ba_ := m0
                have Bb_ := m1
                have Bc_ := m2
                have Bd_ := m3
                have Be_ := m4
                have HB := m5
                clear m0 m1 m2 m3 m4 m5
                refine start_ (n := 7) (S := fun w' => w'.cell? ⟨ga, 0, none⟩ = some (.int .i64 a1_0) ∧ w'.cell? ⟨ga, 1, none⟩ = some (.int .i64 (wrap64 (a1_1 + t123))) ∧ w'.cell? ⟨ge, 0, none⟩ = some (.int .i64 0) ∧ w'.cell? ⟨ge, 1, none⟩ = some (.int .i64 0) ∧ w'.cell? ⟨ge, 2, none⟩ = some (.string (⟨#[]⟩ : ByteArray))) (ds := []) #[false, false, false, false, false, false, false] (by kernel_rfl) rfl rfl ⟨(blk_cell Ba_.out 0).trans rfl, (blk_cell Ba_.out 1).trans rfl, (blk_cell Be_.out 0).trans rfl, (blk_cell Be_.out 1).trans rfl, (blk_cell Be_.out 2).trans rfl⟩ (fun hH => ?_)
                generalize w336.drew = w337 at Ba_ Bb_ Bc_ Bd_ Be_ HB hH ⊢
                refine pure_ (i := 2) (N := some 186) (v := ?_) (a' := ?_) #[false, false, true, false, false, false, false] rfl rfl (by kernel_rfl) (fun _ _ _ h => h) (Or.inl ⟨by rfl, ?_⟩) ?_ ?_
                rotate_left
                ·
                 intro w'
                 go_simp
                 with_reducible rfl
                rotate_left
                ·
                 simp only [Act.put, List.setIfInBounds_toArray, List.set_cons_zero, List.set_cons_succ, i64_w, i32_w]
                 rfl
                refine pure_ (i := 3) (N := some 187) (v := ?_) (a' := ?_) #[false, false, true, true, false, false, false] rfl rfl (by kernel_rfl) (fun _ _ _ h => h) (Or.inl ⟨by rfl, ?_⟩) ?_ ?_
                rotate_left
                ·
                 intro w'
                 go_simp
                 with_reducible rfl
                rotate_left
                ·
                 simp only [Act.put, List.setIfInBounds_toArray, List.set_cons_zero, List.set_cons_succ, i64_w, i32_w]
                 rfl
                refine take_ (i := 0) (N := some 184) (v := ?_) (a' := ?_) #[true, false, true, true, false, false, false] rfl rfl (by kernel_rfl) (fun _ _ _ h => h) (Or.inl ⟨by rfl, ?_⟩) hH ?_ ?_
                rotate_left
                ·
                 rintro w' ⟨s0, s1, s2, s3, s4⟩
                 go_simp
                 with_reducible rfl
                rotate_left
                ·
                 simp only [Act.put, List.setIfInBounds_toArray, List.set_cons_zero, List.set_cons_succ, i64_w, i32_w]
                 rfl
                refine take_ (i := 1) (N := some 185) (v := ?_) (a' := ?_) #[true, true, true, true, false, false, false] rfl rfl (by kernel_rfl) (fun _ _ _ h => h) (Or.inl ⟨by rfl, ?_⟩) hH ?_ ?_
                rotate_left
                ·
                 rintro w' ⟨s0, s1, s2, s3, s4⟩
                 go_simp
                 with_reducible rfl
                rotate_left
                ·
                 simp only [Act.put, List.setIfInBounds_toArray, List.set_cons_zero, List.set_cons_succ, i64_w, i32_w]
                 rfl
                refine one_ (i := 4) (N := none) #[true, true, true, true, true, false, false] rfl rfl (by kernel_rfl) (by decide) (fun K hK => ?_)
                have hs338 : w337.cell? ⟨gc, 0, none⟩ = some (.int .i64 0) := (blk_cell Bc_.out 0).trans rfl
                have hfs338 := blk_frozen Bc_.out 0
                have hns338_0 := Nac.out
                have hns338_1 := Nbc.out
                have hns338_3 := Ndc.out
                have hns338_4 := Nec.out
                have hms338_0 := Nca.out
                have hms338_1 := Ncb.out
                have hms338_3 := Ncd.out
                have hms338_4 := Nce.out
                have hs339 : w337.cell? ⟨gc, 1, none⟩ = some (.int .i64 0) := (blk_cell Bc_.out 1).trans rfl
                have hfs339 := blk_frozen Bc_.out 1
                have hns339_0 := Nac.out
                have hns339_1 := Nbc.out
                have hns339_3 := Ndc.out
                have hns339_4 := Nec.out
                have hms339_0 := Nca.out
                have hms339_1 := Ncb.out
                have hms339_3 := Ncd.out
                have hms339_4 := Nce.out
                refine skip_ (w1 := ?_) (by rfl) rfl ?_ ?_
                rotate_left
                ·
                 go_simp
                 rfl
                refine hK.out _ _ ⟨((cf_ Nac.out _).trans (((cf_ Nac.out _).trans (hH.1)))), ((cf_ Nac.out _).trans (((cf_ Nac.out _).trans (hH.2.1)))), ((cf_ Nec.out _).trans (((cf_ Nec.out _).trans (hH.2.2.1)))), ((cf_ Nec.out _).trans (((cf_ Nec.out _).trans (hH.2.2.2.1)))), ((cf_ Nec.out _).trans (((cf_ Nec.out _).trans (hH.2.2.2.2))))⟩ (fun hH => ?_)
                clear hK K
                refine one_ (i := 5) (N := none) #[true, true, true, true, true, true, false] rfl rfl (by kernel_rfl) (by decide) (fun K hK => ?_)
                have hs340 : w337.cell? ⟨gd, 0, none⟩ = some (.int .i64 0) := (blk_cell Bd_.out 0).trans rfl
                have hfs340 := blk_frozen Bd_.out 0
                have hns340_0 := Nad.out
                have hns340_1 := Nbd.out
                have hns340_2 := Ncd.out
                have hns340_4 := Ned.out
                have hms340_0 := Nda.out
                have hms340_1 := Ndb.out
                have hms340_2 := Ndc.out
                have hms340_4 := Nde.out
                have hs341 : w337.cell? ⟨gd, 1, none⟩ = some (.int .i64 0) := (blk_cell Bd_.out 1).trans rfl
                have hfs341 := blk_frozen Bd_.out 1
                have hns341_0 := Nad.out
                have hns341_1 := Nbd.out
                have hns341_2 := Ncd.out
                have hns341_4 := Ned.out
                have hms341_0 := Nda.out
                have hms341_1 := Ndb.out
                have hms341_2 := Ndc.out
                have hms341_4 := Nde.out
                have hs342 : w337.cell? ⟨gd, 2, none⟩ = some (.string (⟨#[]⟩ : ByteArray)) := (blk_cell Bd_.out 2).trans rfl
                have hfs342 := blk_frozen Bd_.out 2
                have hns342_0 := Nad.out
                have hns342_1 := Nbd.out
                have hns342_2 := Ncd.out
                have hns342_4 := Ned.out
                have hms342_0 := Nda.out
                have hms342_1 := Ndb.out
                have hms342_2 := Ndc.out
                have hms342_4 := Nde.out
                refine skip_ (w1 := ?_) (by rfl) rfl ?_ ?_
                rotate_left
                ·
                 go_simp
                 rfl
                refine hK.out _ _ ⟨((cf_ Nad.out _).trans (((cf_ Nad.out _).trans (((cf_ Nad.out _).trans (hH.1)))))), ((cf_ Nad.out _).trans (((cf_ Nad.out _).trans (((cf_ Nad.out _).trans (hH.2.1)))))), ((cf_ Ned.out _).trans (((cf_ Ned.out _).trans (((cf_ Ned.out _).trans (hH.2.2.1)))))), ((cf_ Ned.out _).trans (((cf_ Ned.out _).trans (((cf_ Ned.out _).trans (hH.2.2.2.1)))))), ((cf_ Ned.out _).trans (((cf_ Ned.out _).trans (((cf_ Ned.out _).trans (hH.2.2.2.2))))))⟩ (fun hH => ?_)
                clear hK K
                refine pure_ (i := 6) (N := some 8) (v := ?_) (a' := ?_) #[true, true, true, true, true, true, true] rfl rfl (by kernel_rfl) (fun _ _ _ h => h) (Or.inl ⟨by rfl, ?_⟩) ?_ ?_
                rotate_left
                ·
                 intro w'
                 go_simp
                 with_reducible rfl
                rotate_left
                ·
                 simp only [Act.put, List.setIfInBounds_toArray, List.set_cons_zero, List.set_cons_succ, i64_w, i32_w]
                 rfl
                refine done_ (by kernel_rfl) ?_
                try go_wp2
                refine bodyPost_ret (results_list (rs := [.cell 6 64, .cell 7 46, .tmp 8]) rfl (by simp) (.cell gc 64 #[.int .i64 a1_0, .int .i64 (wrap64 (a1_1 + t123))] (0, 0) _ rfl (by (with_reducible repeat first | refine bN_ ?_ _ | refine bD_ ?_ | refine bA_ ?_ _); refine blk_far ?_ Ncd.out _; (with_reducible repeat first | refine bN_ ?_ _ | refine bD_ ?_ | refine bA_ ?_ _); refine blk_far ?_ Ncd.out _; (with_reducible repeat first | refine bN_ ?_ _ | refine bD_ ?_ | refine bA_ ?_ _); refine blk_far ?_ Ncd.out _; (with_reducible repeat first | refine bN_ ?_ _ | refine bD_ ?_ | refine bA_ ?_ _); refine blk_put (cs := #[.int .i64 a1_0, .int .i64 0]) ?_ 1 _ rfl; (with_reducible repeat first | refine bN_ ?_ _ | refine bD_ ?_ | refine bA_ ?_ _); refine blk_put (cs := #[.int .i64 0, .int .i64 0]) ?_ 0 _ rfl; (with_reducible repeat first | refine bN_ ?_ _ | refine bD_ ?_ | refine bA_ ?_ _); exact Bc_.out) Tryd.underlying64 rfl (by kernel_rfl) (.cell gd 46 #[.int .i64 0, .int .i64 0, .string (⟨#[]⟩ : ByteArray)] (0, 0) _ rfl (by (with_reducible repeat first | refine bN_ ?_ _ | refine bD_ ?_ | refine bA_ ?_ _); refine blk_put (cs := #[.int .i64 0, .int .i64 0, .string (⟨#[]⟩ : ByteArray)]) ?_ 2 _ rfl; (with_reducible repeat first | refine bN_ ?_ _ | refine bD_ ?_ | refine bA_ ?_ _); refine blk_put (cs := #[.int .i64 0, .int .i64 0, .string (⟨#[]⟩ : ByteArray)]) ?_ 1 _ rfl; (with_reducible repeat first | refine bN_ ?_ _ | refine bD_ ?_ | refine bA_ ?_ _); refine blk_put (cs := #[.int .i64 0, .int .i64 0, .string (⟨#[]⟩ : ByteArray)]) ?_ 0 _ rfl; (with_reducible repeat first | refine bN_ ?_ _ | refine bD_ ?_ | refine bA_ ?_ _); refine blk_far ?_ Ndc.out _; (with_reducible repeat first | refine bN_ ?_ _ | refine bD_ ?_ | refine bA_ ?_ _); refine blk_far ?_ Ndc.out _; (with_reducible repeat first | refine bN_ ?_ _ | refine bD_ ?_ | refine bA_ ?_ _); exact Bd_.out) Tryd.underlying46 rfl (by kernel_rfl) (.tmp .nil)))) rfl ?_
                exact ⟨by first | rfl | (simp [errW_none, errW_some] <;> rfl), by repeat (first | (with_reducible first | exact HB.out | apply below_alloc | apply pw_below_drewN | apply below_drew1 | refine below_set ?_ GE112.out | refine below_set ?_ GE113.out | refine below_set ?_ GE114.out | refine below_set ?_ GE115.out | refine below_set ?_ GE116.out) | exact HB.out)⟩
               ·
                rw [if_neg c325] at H
                have c325b0 : (a2_0 == 10) = false := beq_eq_false_iff_ne.mpr c325
                have c325b1 : (a2_0 != 10) = true := bne_iff_ne.mpr c325
                by_cases c343 : a2_0 = 11
                ·
                 rw [if_pos c343] at H
                 have c343b0 : (a2_0 == 11) = true := beq_iff_eq.mpr c343
                 have c343b1 : (a2_0 != 11) = false := bne_eq_false_iff_eq.mpr c343
                 clear c343
                 simp only [Option.some.injEq, Prod.mk.injEq] at H
                 obtain ⟨rfl, rfl, rfl, rfl, rfl, rfl⟩ := H
                 have hnb344 := Nba.out
                 have hnc344 := Nab.out
                 have hnb345 := Nbc.out
                 have hnc345 := Ncb.out
                 have hnb346 := Nbd.out
                 have hnc346 := Ndb.out
                 have hnb347 := Nbe.out
                 have hnc347 := Neb.out
                 have hcz348_0 : wc.cell? ⟨gb, 0, none⟩ = some (.int .i64 a2_0) := (blk_cell Bb_.out 0).trans rfl
                 have hcz348_1 : wc.cell? ⟨gb, 1, none⟩ = some (.int .i64 a2_1) := (blk_cell Bb_.out 1).trans rfl
                 have hfz348_0 := blk_frozen Bb_.out 0
                 have hfz348_1 := blk_frozen Bb_.out 1
                 have hnb349 := Nac.out
                 have hnc349 := Nca.out
                 have hnb350 := Nad.out
                 have hnc350 := Nda.out
                 have hnb351 := Nae.out
                 have hnc351 := Nea.out
                 have hcz352_0 : wc.cell? ⟨ga, 0, none⟩ = some (.int .i64 a1_0) := (blk_cell Ba_.out 0).trans rfl
                 have hcz352_1 : wc.cell? ⟨ga, 1, none⟩ = some (.int .i64 a1_1) := (blk_cell Ba_.out 1).trans rfl
                 have hfz352_0 := blk_frozen Ba_.out 0
                 have hfz352_1 := blk_frozen Ba_.out 1
                 try go_wp2
                 have m0 : Aside0 (((wc.setCell ⟨ga, 0, none⟩ (.int .i64 0)).setCell ⟨ga, 1, none⟩ (.int .i64 0)).heap[ga]? = some (.cells #[.int .i64 0, .int .i64 0] 64 (0, 0))) := ⟨by (with_reducible repeat first | refine bN_ ?_ _ | refine bD_ ?_ | refine bA_ ?_ _); refine blk_put (cs := #[.int .i64 0, .int .i64 a1_1]) ?_ 1 _ rfl; (with_reducible repeat first | refine bN_ ?_ _ | refine bD_ ?_ | refine bA_ ?_ _); refine blk_put (cs := #[.int .i64 a1_0, .int .i64 a1_1]) ?_ 0 _ rfl; (with_reducible repeat first | refine bN_ ?_ _ | refine bD_ ?_ | refine bA_ ?_ _); exact Ba_.out⟩
                 have m1 : Aside0 (((wc.setCell ⟨ga, 0, none⟩ (.int .i64 0)).setCell ⟨ga, 1, none⟩ (.int .i64 0)).heap[gb]? = some (.cells #[.int .i64 a2_0, .int .i64 a2_1] 44 (0, 0))) := ⟨by (with_reducible repeat first | refine bN_ ?_ _ | refine bD_ ?_ | refine bA_ ?_ _); refine blk_far ?_ Nba.out _; (with_reducible repeat first | refine bN_ ?_ _ | refine bD_ ?_ | refine bA_ ?_ _); refine blk_far ?_ Nba.out _; (with_reducible repeat first | refine bN_ ?_ _ | refine bD_ ?_ | refine bA_ ?_ _); exact Bb_.out⟩
                 have m2 : Aside0 (((wc.setCell ⟨ga, 0, none⟩ (.int .i64 0)).setCell ⟨ga, 1, none⟩ (.int .i64 0)).heap[gc]? = some (.cells #[.int .i64 0, .int .i64 0] 64 (0, 0))) := ⟨by (with_reducible repeat first | refine bN_ ?_ _ | refine bD_ ?_ | refine bA_ ?_ _); refine blk_far ?_ Nca.out _; (with_reducible repeat first | refine bN_ ?_ _ | refine bD_ ?_ | refine bA_ ?_ _); refine blk_far ?_ Nca.out _; (with_reducible repeat first | refine bN_ ?_ _ | refine bD_ ?_ | refine bA_ ?_ _); exact Bc_.out⟩
                 have m3 : Aside0 (((wc.setCell ⟨ga, 0, none⟩ (.int .i64 0)).setCell ⟨ga, 1, none⟩ (.int .i64 0)).heap[gd]? = some (.cells #[.int .i64 0, .int .i64 0, .string (⟨#[]⟩ : ByteArray)] 46 (0, 0))) := ⟨by (with_reducible repeat first | refine bN_ ?_ _ | refine bD_ ?_ | refine bA_ ?_ _); refine blk_far ?_ Nda.out _; (with_reducible repeat first | refine bN_ ?_ _ | refine bD_ ?_ | refine bA_ ?_ _); refine blk_far ?_ Nda.out _; (with_reducible repeat first | refine bN_ ?_ _ | refine bD_ ?_ | refine bA_ ?_ _); exact Bd_.out⟩
                 have m4 : Aside0 (((wc.setCell ⟨ga, 0, none⟩ (.int .i64 0)).setCell ⟨ga, 1, none⟩ (.int .i64 0)).heap[ge]? = some (.cells #[.int .i64 0, .int .i64 0, .string (⟨#[]⟩ : ByteArray)] 46 (0, 0))) := ⟨by (with_reducible repeat first | refine bN_ ?_ _ | refine bD_ ?_ | refine bA_ ?_ _); refine blk_far ?_ Nea.out _; (with_reducible repeat first | refine bN_ ?_ _ | refine bD_ ?_ | refine bA_ ?_ _); refine blk_far ?_ Nea.out _; (with_reducible repeat first | refine bN_ ?_ _ | refine bD_ ?_ | refine bA_ ?_ _); exact Be_.out⟩
                 have m5 : Aside0 (Below w.heap.size w ((wc.setCell ⟨ga, 0, none⟩ (.int .i64 0)).setCell ⟨ga, 1, none⟩ (.int .i64 0))) := ⟨by repeat (first | (with_reducible first | exact HB.out | apply below_alloc | apply pw_below_drewN | apply below_drew1 | refine below_set ?_ GE112.out | refine below_set ?_ GE113.out | refine below_set ?_ GE114.out | refine below_set ?_ GE115.out | refine below_set ?_ GE116.out) | exact HB.out)⟩
                 (try clear Ba_)
                 (try clear Bb_)
                 (try clear Bc_)
                 (try clear Bd_)
                 (try clear Be_)
                 (try clear HB)
                 generalize ((wc.setCell ⟨ga, 0, none⟩ (.int .i64 0)).setCell ⟨ga, 1, none⟩ (.int .i64 0)) = w353 at m0 m1 m2 m3 m4 m5 ⊢
                 have Ba_ := m0
                 have Bb_ := m1
                 have Bc_ := m2
                 have Bd_ := m3
                 have Be_ := m4
                 have HB := m5
                 clear m0 m1 m2 m3 m4 m5
                 have m0 := Aside0.mk (blk_drew Ba_.out)
                 have m1 := Aside0.mk (blk_drew Bb_.out)
                 have m2 := Aside0.mk (blk_drew Bc_.out)
                 have m3 := Aside0.mk (blk_drew Bd_.out)
                 have m4 := Aside0.mk (blk_drew Be_.out)
                 have m5 := Aside0.mk (below_drew1 HB.out)
                 clear Ba_
                 clear Bb_
                 clear Bc_
                 clear Bd_
                 clear Be_
                 clear HB
                 have Ba_ := m0
                 have Bb_ := m1
                 have Bc_ := m2
                 have Bd_ := m3
                 have Be_ := m4
                 have HB := m5
                 clear m0 m1 m2 m3 m4 m5
                 refine start_ (n := 5) (S := fun w' => w'.cell? ⟨ga, 0, none⟩ = some (.int .i64 0) ∧ w'.cell? ⟨ga, 1, none⟩ = some (.int .i64 0) ∧ w'.cell? ⟨ge, 0, none⟩ = some (.int .i64 0) ∧ w'.cell? ⟨ge, 1, none⟩ = some (.int .i64 0) ∧ w'.cell? ⟨ge, 2, none⟩ = some (.string (⟨#[]⟩ : ByteArray))) (ds := []) #[false, false, false, false, false] (by kernel_rfl) rfl rfl ⟨(blk_cell Ba_.out 0).trans rfl, (blk_cell Ba_.out 1).trans rfl, (blk_cell Be_.out 0).trans rfl, (blk_cell Be_.out 1).trans rfl, (blk_cell Be_.out 2).trans rfl⟩ (fun hH => ?_)
                 generalize w353.drew = w354 at Ba_ Bb_ Bc_ Bd_ Be_ HB hH ⊢
                 refine take_ (i := 0) (N := some 191) (v := ?_) (a' := ?_) #[true, false, false, false, false] rfl rfl (by kernel_rfl) (fun _ _ _ h => h) (Or.inl ⟨by rfl, ?_⟩) hH ?_ ?_
                 rotate_left
                 ·
                  rintro w' ⟨s0, s1, s2, s3, s4⟩
                  go_simp
                  with_reducible rfl
                 rotate_left
                 ·
                  simp only [Act.put, List.setIfInBounds_toArray, List.set_cons_zero, List.set_cons_succ, i64_w, i32_w]
                  rfl
                 refine take_ (i := 1) (N := some 192) (v := ?_) (a' := ?_) #[true, true, false, false, false] rfl rfl (by kernel_rfl) (fun _ _ _ h => h) (Or.inl ⟨by rfl, ?_⟩) hH ?_ ?_
                 rotate_left
                 ·
                  rintro w' ⟨s0, s1, s2, s3, s4⟩
                  go_simp
                  with_reducible rfl
                 rotate_left
                 ·
                  simp only [Act.put, List.setIfInBounds_toArray, List.set_cons_zero, List.set_cons_succ, i64_w, i32_w]
                  rfl
                 refine one_ (i := 2) (N := none) #[true, true, true, false, false] rfl rfl (by kernel_rfl) (by decide) (fun K hK => ?_)
                 have hs355 : w354.cell? ⟨gc, 0, none⟩ = some (.int .i64 0) := (blk_cell Bc_.out 0).trans rfl
                 have hfs355 := blk_frozen Bc_.out 0
                 have hns355_0 := Nac.out
                 have hns355_1 := Nbc.out
                 have hns355_3 := Ndc.out
                 have hns355_4 := Nec.out
                 have hms355_0 := Nca.out
                 have hms355_1 := Ncb.out
                 have hms355_3 := Ncd.out
                 have hms355_4 := Nce.out
                 have hs356 : w354.cell? ⟨gc, 1, none⟩ = some (.int .i64 0) := (blk_cell Bc_.out 1).trans rfl
                 have hfs356 := blk_frozen Bc_.out 1
                 have hns356_0 := Nac.out
                 have hns356_1 := Nbc.out
                 have hns356_3 := Ndc.out
                 have hns356_4 := Nec.out
                 have hms356_0 := Nca.out
                 have hms356_1 := Ncb.out
                 have hms356_3 := Ncd.out
                 have hms356_4 := Nce.out
                 refine skip_ (w1 := ?_) (by rfl) rfl ?_ ?_
                 rotate_left
                 ·
                  go_simp
                  rfl
                 refine hK.out _ _ ⟨((cf_ Nac.out _).trans (((cf_ Nac.out _).trans (hH.1)))), ((cf_ Nac.out _).trans (((cf_ Nac.out _).trans (hH.2.1)))), ((cf_ Nec.out _).trans (((cf_ Nec.out _).trans (hH.2.2.1)))), ((cf_ Nec.out _).trans (((cf_ Nec.out _).trans (hH.2.2.2.1)))), ((cf_ Nec.out _).trans (((cf_ Nec.out _).trans (hH.2.2.2.2))))⟩ (fun hH => ?_)
                 clear hK K
                 refine one_ (i := 3) (N := none) #[true, true, true, true, false] rfl rfl (by kernel_rfl) (by decide) (fun K hK => ?_)
                 have hs357 : w354.cell? ⟨gd, 0, none⟩ = some (.int .i64 0) := (blk_cell Bd_.out 0).trans rfl
                 have hfs357 := blk_frozen Bd_.out 0
                 have hns357_0 := Nad.out
                 have hns357_1 := Nbd.out
                 have hns357_2 := Ncd.out
                 have hns357_4 := Ned.out
                 have hms357_0 := Nda.out
                 have hms357_1 := Ndb.out
                 have hms357_2 := Ndc.out
                 have hms357_4 := Nde.out
                 have hs358 : w354.cell? ⟨gd, 1, none⟩ = some (.int .i64 0) := (blk_cell Bd_.out 1).trans rfl
                 have hfs358 := blk_frozen Bd_.out 1
                 have hns358_0 := Nad.out
                 have hns358_1 := Nbd.out
                 have hns358_2 := Ncd.out
                 have hns358_4 := Ned.out
                 have hms358_0 := Nda.out
                 have hms358_1 := Ndb.out
                 have hms358_2 := Ndc.out
                 have hms358_4 := Nde.out
                 have hs359 : w354.cell? ⟨gd, 2, none⟩ = some (.string (⟨#[]⟩ : ByteArray)) := (blk_cell Bd_.out 2).trans rfl
                 have hfs359 := blk_frozen Bd_.out 2
                 have hns359_0 := Nad.out
                 have hns359_1 := Nbd.out
                 have hns359_2 := Ncd.out
                 have hns359_4 := Ned.out
                 have hms359_0 := Nda.out
                 have hms359_1 := Ndb.out
                 have hms359_2 := Ndc.out
                 have hms359_4 := Nde.out
                 refine skip_ (w1 := ?_) (by rfl) rfl ?_ ?_
                 rotate_left
                 ·
                  go_simp
                  rfl
                 refine hK.out _ _ ⟨((cf_ Nad.out _).trans (((cf_ Nad.out _).trans (((cf_ Nad.out _).trans (hH.1)))))), ((cf_ Nad.out _).trans (((cf_ Nad.out _).trans (((cf_ Nad.out _).trans (hH.2.1)))))), ((cf_ Ned.out _).trans (((cf_ Ned.out _).trans (((cf_ Ned.out _).trans (hH.2.2.1)))))), ((cf_ Ned.out _).trans (((cf_ Ned.out _).trans (((cf_ Ned.out _).trans (hH.2.2.2.1)))))), ((cf_ Ned.out _).trans (((cf_ Ned.out _).trans (((cf_ Ned.out _).trans (hH.2.2.2.2))))))⟩ (fun hH => ?_)
                 clear hK K
                 refine pure_ (i := 4) (N := some 8) (v := ?_) (a' := ?_) #[true, true, true, true, true] rfl rfl (by kernel_rfl) (fun _ _ _ h => h) (Or.inl ⟨by rfl, ?_⟩) ?_ ?_
                 rotate_left
                 ·
                  intro w'
                  go_simp
                  with_reducible rfl
                 rotate_left
                 ·
                  simp only [Act.put, List.setIfInBounds_toArray, List.set_cons_zero, List.set_cons_succ, i64_w, i32_w]
                  rfl
                 refine done_ (by kernel_rfl) ?_
                 try go_wp2
                 refine bodyPost_ret (results_list (rs := [.cell 6 64, .cell 7 46, .tmp 8]) rfl (by simp) (.cell gc 64 #[.int .i64 0, .int .i64 0] (0, 0) _ rfl (by (with_reducible repeat first | refine bN_ ?_ _ | refine bD_ ?_ | refine bA_ ?_ _); refine blk_far ?_ Ncd.out _; (with_reducible repeat first | refine bN_ ?_ _ | refine bD_ ?_ | refine bA_ ?_ _); refine blk_far ?_ Ncd.out _; (with_reducible repeat first | refine bN_ ?_ _ | refine bD_ ?_ | refine bA_ ?_ _); refine blk_far ?_ Ncd.out _; (with_reducible repeat first | refine bN_ ?_ _ | refine bD_ ?_ | refine bA_ ?_ _); refine blk_put (cs := #[.int .i64 0, .int .i64 0]) ?_ 1 _ rfl; (with_reducible repeat first | refine bN_ ?_ _ | refine bD_ ?_ | refine bA_ ?_ _); refine blk_put (cs := #[.int .i64 0, .int .i64 0]) ?_ 0 _ rfl; (with_reducible repeat first | refine bN_ ?_ _ | refine bD_ ?_ | refine bA_ ?_ _); exact Bc_.out) Tryd.underlying64 rfl (by kernel_rfl) (.cell gd 46 #[.int .i64 0, .int .i64 0, .string (⟨#[]⟩ : ByteArray)] (0, 0) _ rfl (by (with_reducible repeat first | refine bN_ ?_ _ | refine bD_ ?_ | refine bA_ ?_ _); refine blk_put (cs := #[.int .i64 0, .int .i64 0, .string (⟨#[]⟩ : ByteArray)]) ?_ 2 _ rfl; (with_reducible repeat first | refine bN_ ?_ _ | refine bD_ ?_ | refine bA_ ?_ _); refine blk_put (cs := #[.int .i64 0, .int .i64 0, .string (⟨#[]⟩ : ByteArray)]) ?_ 1 _ rfl; (with_reducible repeat first | refine bN_ ?_ _ | refine bD_ ?_ | refine bA_ ?_ _); refine blk_put (cs := #[.int .i64 0, .int .i64 0, .string (⟨#[]⟩ : ByteArray)]) ?_ 0 _ rfl; (with_reducible repeat first | refine bN_ ?_ _ | refine bD_ ?_ | refine bA_ ?_ _); refine blk_far ?_ Ndc.out _; (with_reducible repeat first | refine bN_ ?_ _ | refine bD_ ?_ | refine bA_ ?_ _); refine blk_far ?_ Ndc.out _; (with_reducible repeat first | refine bN_ ?_ _ | refine bD_ ?_ | refine bA_ ?_ _); exact Bd_.out) Tryd.underlying46 rfl (by kernel_rfl) (.tmp .nil)))) rfl ?_
                 exact ⟨by first | rfl | (simp [errW_none, errW_some] <;> rfl), by repeat (first | (with_reducible first | exact HB.out | apply below_alloc | apply pw_below_drewN | apply below_drew1 | refine below_set ?_ GE112.out | refine below_set ?_ GE113.out | refine below_set ?_ GE114.out | refine below_set ?_ GE115.out | refine below_set ?_ GE116.out) | exact HB.out)⟩
                ·
                 rw [if_neg c343] at H
                 have c343b0 : (a2_0 == 11) = false := beq_eq_false_iff_ne.mpr c343
                 have c343b1 : (a2_0 != 11) = true := bne_iff_ne.mpr c343
                 simp only [Option.some.injEq, Prod.mk.injEq] at H
                 obtain ⟨rfl, rfl, rfl, rfl, rfl, rfl⟩ := H
                 have hnb360 := Nba.out
                 have hnc360 := Nab.out
                 have hnb361 := Nbc.out
                 have hnc361 := Ncb.out
                 have hnb362 := Nbd.out
                 have hnc362 := Ndb.out
                 have hnb363 := Nbe.out
                 have hnc363 := Neb.out
                 have hcz364_0 : wc.cell? ⟨gb, 0, none⟩ = some (.int .i64 a2_0) := (blk_cell Bb_.out 0).trans rfl
                 have hcz364_1 : wc.cell? ⟨gb, 1, none⟩ = some (.int .i64 a2_1) := (blk_cell Bb_.out 1).trans rfl
                 have hfz364_0 := blk_frozen Bb_.out 0
                 have hfz364_1 := blk_frozen Bb_.out 1
                 try go_wp2
                 have m0 := Aside0.mk (blk_drew Ba_.out)
                 have m1 := Aside0.mk (blk_drew Bb_.out)
                 have m2 := Aside0.mk (blk_drew Bc_.out)
                 have m3 := Aside0.mk (blk_drew Bd_.out)
                 have m4 := Aside0.mk (blk_drew Be_.out)
                 have m5 := Aside0.mk (below_drew1 HB.out)
                 clear Ba_
                 clear Bb_
                 clear Bc_
                 clear Bd_
                 clear Be_
                 clear HB
                 have Ba_ := m0
                 have Bb_ := m1
                 have Bc_ := m2
                 have Bd_ := m3
                 have Be_ := m4
                 have HB := m5
                 clear m0 m1 m2 m3 m4 m5
                 refine start_ (n := 5) (S := fun w' => w'.cell? ⟨ga, 0, none⟩ = some (.int .i64 a1_0) ∧ w'.cell? ⟨ga, 1, none⟩ = some (.int .i64 a1_1) ∧ w'.cell? ⟨ge, 0, none⟩ = some (.int .i64 0) ∧ w'.cell? ⟨ge, 1, none⟩ = some (.int .i64 0) ∧ w'.cell? ⟨ge, 2, none⟩ = some (.string (⟨#[]⟩ : ByteArray))) (ds := []) #[false, false, false, false, false] (by kernel_rfl) rfl rfl ⟨(blk_cell Ba_.out 0).trans rfl, (blk_cell Ba_.out 1).trans rfl, (blk_cell Be_.out 0).trans rfl, (blk_cell Be_.out 1).trans rfl, (blk_cell Be_.out 2).trans rfl⟩ (fun hH => ?_)
                 generalize wc.drew = w365 at Ba_ Bb_ Bc_ Bd_ Be_ HB hH ⊢
                 refine take_ (i := 0) (N := some 191) (v := ?_) (a' := ?_) #[true, false, false, false, false] rfl rfl (by kernel_rfl) (fun _ _ _ h => h) (Or.inl ⟨by rfl, ?_⟩) hH ?_ ?_
                 rotate_left
                 ·
                  rintro w' ⟨s0, s1, s2, s3, s4⟩
                  go_simp
                  with_reducible rfl
                 rotate_left
                 ·
                  simp only [Act.put, List.setIfInBounds_toArray, List.set_cons_zero, List.set_cons_succ, i64_w, i32_w]
                  rfl
                 refine take_ (i := 1) (N := some 192) (v := ?_) (a' := ?_) #[true, true, false, false, false] rfl rfl (by kernel_rfl) (fun _ _ _ h => h) (Or.inl ⟨by rfl, ?_⟩) hH ?_ ?_
                 rotate_left
                 ·
                  rintro w' ⟨s0, s1, s2, s3, s4⟩
                  go_simp
                  with_reducible rfl
                 rotate_left
                 ·
                  simp only [Act.put, List.setIfInBounds_toArray, List.set_cons_zero, List.set_cons_succ, i64_w, i32_w]
                  rfl
                 refine one_ (i := 2) (N := none) #[true, true, true, false, false] rfl rfl (by kernel_rfl) (by decide) (fun K hK => ?_)
                 have hs366 : w365.cell? ⟨gc, 0, none⟩ = some (.int .i64 0) := (blk_cell Bc_.out 0).trans rfl
                 have hfs366 := blk_frozen Bc_.out 0
                 have hns366_0 := Nac.out
                 have hns366_1 := Nbc.out
                 have hns366_3 := Ndc.out
                 have hns366_4 := Nec.out
                 have hms366_0 := Nca.out
                 have hms366_1 := Ncb.out
                 have hms366_3 := Ncd.out
                 have hms366_4 := Nce.out
                 have hs367 : w365.cell? ⟨gc, 1, none⟩ = some (.int .i64 0) := (blk_cell Bc_.out 1).trans rfl
                 have hfs367 := blk_frozen Bc_.out 1
                 have hns367_0 := Nac.out
                 have hns367_1 := Nbc.out
                 have hns367_3 := Ndc.out
                 have hns367_4 := Nec.out
                 have hms367_0 := Nca.out
                 have hms367_1 := Ncb.out
                 have hms367_3 := Ncd.out
                 have hms367_4 := Nce.out
                 refine skip_ (w1 := ?_) (by rfl) rfl ?_ ?_
                 rotate_left
                 ·
                  go_simp
                  rfl
                 refine hK.out _ _ ⟨((cf_ Nac.out _).trans (((cf_ Nac.out _).trans (hH.1)))), ((cf_ Nac.out _).trans (((cf_ Nac.out _).trans (hH.2.1)))), ((cf_ Nec.out _).trans (((cf_ Nec.out _).trans (hH.2.2.1)))), ((cf_ Nec.out _).trans (((cf_ Nec.out _).trans (hH.2.2.2.1)))), ((cf_ Nec.out _).trans (((cf_ Nec.out _).trans (hH.2.2.2.2))))⟩ (fun hH => ?_)
                 clear hK K
                 refine one_ (i := 3) (N := none) #[true, true, true, true, false] rfl rfl (by kernel_rfl) (by decide) (fun K hK => ?_)
                 have hs368 : w365.cell? ⟨gd, 0, none⟩ = some (.int .i64 0) := (blk_cell Bd_.out 0).trans rfl
                 have hfs368 := blk_frozen Bd_.out 0
                 have hns368_0 := Nad.out
                 have hns368_1 := Nbd.out
                 have hns368_2 := Ncd.out
                 have hns368_4 := Ned.out
                 have hms368_0 := Nda.out
                 have hms368_1 := Ndb.out
                 have hms368_2 := Ndc.out
                 have hms368_4 := Nde.out
                 have hs369 : w365.cell? ⟨gd, 1, none⟩ = some (.int .i64 0) := (blk_cell Bd_.out 1).trans rfl
                 have hfs369 := blk_frozen Bd_.out 1
                 have hns369_0 := Nad.out
                 have hns369_1 := Nbd.out
                 have hns369_2 := Ncd.out
                 have hns369_4 := Ned.out
                 have hms369_0 := Nda.out
                 have hms369_1 := Ndb.out
                 have hms369_2 := Ndc.out
                 have hms369_4 := Nde.out
                 have hs370 : w365.cell? ⟨gd, 2, none⟩ = some (.string (⟨#[]⟩ : ByteArray)) := (blk_cell Bd_.out 2).trans rfl
                 have hfs370 := blk_frozen Bd_.out 2
                 have hns370_0 := Nad.out
                 have hns370_1 := Nbd.out
                 have hns370_2 := Ncd.out
                 have hns370_4 := Ned.out
                 have hms370_0 := Nda.out
                 have hms370_1 := Ndb.out
                 have hms370_2 := Ndc.out
                 have hms370_4 := Nde.out
                 refine skip_ (w1 := ?_) (by rfl) rfl ?_ ?_
                 rotate_left
                 ·
                  go_simp
                  rfl
                 refine hK.out _ _ ⟨((cf_ Nad.out _).trans (((cf_ Nad.out _).trans (((cf_ Nad.out _).trans (hH.1)))))), ((cf_ Nad.out _).trans (((cf_ Nad.out _).trans (((cf_ Nad.out _).trans (hH.2.1)))))), ((cf_ Ned.out _).trans (((cf_ Ned.out _).trans (((cf_ Ned.out _).trans (hH.2.2.1)))))), ((cf_ Ned.out _).trans (((cf_ Ned.out _).trans (((cf_ Ned.out _).trans (hH.2.2.2.1)))))), ((cf_ Ned.out _).trans (((cf_ Ned.out _).trans (((cf_ Ned.out _).trans (hH.2.2.2.2))))))⟩ (fun hH => ?_)
                 clear hK K
                 refine pure_ (i := 4) (N := some 8) (v := ?_) (a' := ?_) #[true, true, true, true, true] rfl rfl (by kernel_rfl) (fun _ _ _ h => h) (Or.inl ⟨by rfl, ?_⟩) ?_ ?_
                 rotate_left
                 ·
                  intro w'
                  go_simp
                  with_reducible rfl
                 rotate_left
                 ·
                  simp only [Act.put, List.setIfInBounds_toArray, List.set_cons_zero, List.set_cons_succ, i64_w, i32_w]
                  rfl
                 refine done_ (by kernel_rfl) ?_
                 try go_wp2
                 refine bodyPost_ret (results_list (rs := [.cell 6 64, .cell 7 46, .tmp 8]) rfl (by simp) (.cell gc 64 #[.int .i64 a1_0, .int .i64 a1_1] (0, 0) _ rfl (by (with_reducible repeat first | refine bN_ ?_ _ | refine bD_ ?_ | refine bA_ ?_ _); refine blk_far ?_ Ncd.out _; (with_reducible repeat first | refine bN_ ?_ _ | refine bD_ ?_ | refine bA_ ?_ _); refine blk_far ?_ Ncd.out _; (with_reducible repeat first | refine bN_ ?_ _ | refine bD_ ?_ | refine bA_ ?_ _); refine blk_far ?_ Ncd.out _; (with_reducible repeat first | refine bN_ ?_ _ | refine bD_ ?_ | refine bA_ ?_ _); refine blk_put (cs := #[.int .i64 a1_0, .int .i64 0]) ?_ 1 _ rfl; (with_reducible repeat first | refine bN_ ?_ _ | refine bD_ ?_ | refine bA_ ?_ _); refine blk_put (cs := #[.int .i64 0, .int .i64 0]) ?_ 0 _ rfl; (with_reducible repeat first | refine bN_ ?_ _ | refine bD_ ?_ | refine bA_ ?_ _); exact Bc_.out) Tryd.underlying64 rfl (by kernel_rfl) (.cell gd 46 #[.int .i64 0, .int .i64 0, .string (⟨#[]⟩ : ByteArray)] (0, 0) _ rfl (by (with_reducible repeat first | refine bN_ ?_ _ | refine bD_ ?_ | refine bA_ ?_ _); refine blk_put (cs := #[.int .i64 0, .int .i64 0, .string (⟨#[]⟩ : ByteArray)]) ?_ 2 _ rfl; (with_reducible repeat first | refine bN_ ?_ _ | refine bD_ ?_ | refine bA_ ?_ _); refine blk_put (cs := #[.int .i64 0, .int .i64 0, .string (⟨#[]⟩ : ByteArray)]) ?_ 1 _ rfl; (with_reducible repeat first | refine bN_ ?_ _ | refine bD_ ?_ | refine bA_ ?_ _); refine blk_put (cs := #[.int .i64 0, .int .i64 0, .string (⟨#[]⟩ : ByteArray)]) ?_ 0 _ rfl; (with_reducible repeat first | refine bN_ ?_ _ | refine bD_ ?_ | refine bA_ ?_ _); refine blk_far ?_ Ndc.out _; (with_reducible repeat first | refine bN_ ?_ _ | refine bD_ ?_ | refine bA_ ?_ _); refine blk_far ?_ Ndc.out _; (with_reducible repeat first | refine bN_ ?_ _ | refine bD_ ?_ | refine bA_ ?_ _); exact Bd_.out) Tryd.underlying46 rfl (by kernel_rfl) (.tmp .nil)))) rfl ?_
                 exact ⟨by first | rfl | (simp [errW_none, errW_some] <;> rfl), by repeat (first | (with_reducible first | exact HB.out | apply below_alloc | apply pw_below_drewN | apply below_drew1 | refine below_set ?_ GE112.out | refine below_set ?_ GE113.out | refine below_set ?_ GE114.out | refine below_set ?_ GE115.out | refine below_set ?_ GE116.out) | exact HB.out)⟩

end Go.Proofs.YtgpmmmlmaaiobaaDoor.PFnInputStream
